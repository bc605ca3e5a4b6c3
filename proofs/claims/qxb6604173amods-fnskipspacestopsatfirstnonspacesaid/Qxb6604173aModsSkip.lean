/-
  THE WALKS of '(*jsonReader).skipSpace' and 'ZZSkipSpace'.
-/
import Derived.Test.Qxb6604173aModsRows
import Derived.WalkKit
import Derived.WalkSpells
import Derived.WalkLawsBesides
import Derived.Deep.QuietTactic
import Derived.BigQuiet
import Derived.Deep.LoopGhost
import Derived.Test.Qxb6604173aModsClone
namespace Go.Proofs.Qxb6604173aMods
open Go.RowKit

/-- The whitespace of JSON. -/
def sp (y : Int) : Bool := y == 32 || y == 9 || y == 10 || y == 13
/-- Block g holds a jsonReader over the document (q, n, c), at offset p. -/
def JR (w : World) (g : Nat) (q : Option Addr) (n c : Nat) (p : Int) : Prop := w.heap[g]? = some (.cells #[.slice q n c, .int .i64 p] 29 (0, 0))
section
variable {w : World} {g : Nat} {q : Option Addr} {n c : Nat} {p : Int}
theorem JR.doc (h : JR w g q n c p) : w.cell? ⟨g, 0, none⟩ = some (.slice q n c) := by rw [cell_of_row w g 0 _ 29 _ h]; rfl
theorem JR.pos (h : JR w g q n c p) : w.cell? ⟨g, 1, none⟩ = some (.int .i64 p) := by rw [cell_of_row w g 1 _ 29 _ h]; rfl
theorem JR.free (h : JR w g q n c p) (j : Nat) : w.frozen? ⟨g, j, none⟩ = false := frozen_of_row w g j _ 29 h
theorem JR.lt (h : JR w g q n c p) : g < w.heap.size := by
  rcases Nat.lt_or_ge g w.heap.size with h' | h'
  · exact h'
  · unfold JR at h; rw [Array.getElem?_eq_none h'] at h; cases h
theorem JR.set (h : JR w g q n c p) (p' : Int) : JR (w.setCell ⟨g, 1, none⟩ (.int .i64 p')) g q n c p' := by
  unfold JR; rw [heap_setCell_same w g 1 _ 29 _ h]; rfl
theorem JR.drewN (h : JR w g q n c p) (k : Nat) : JR (w.drewN k) g q n c p := h
end
theorem below_drewN {B : Nat} {a w : World} (h : Below B a w) (n : Nat) : Below B a (w.drewN n) := h.trans ⟨rfl, rfl, rfl, Nat.le_refl _, fun _ _ => rfl⟩

set_option maxRecDepth 100000 in
set_option maxHeartbeats 1600000 in
/-- At or past the end: nothing is read. -/
theorem skip_end (g : Nat) (q : Option Addr) (n c p : Nat) (w : World) (hp : n ≤ p) (hj : JR w g q n c p) :
    Calls Trym.prog 8 #[.pointer (some ⟨g, 0, none⟩)] w fun e w' => e = .returned (.tuple #[]) ∧ ∃ k, w' = w.drewN k := by
  have g1 := hj.doc
  have g2 := hj.pos
  clear hj
  go_enter Trym.func8, Trym.ntmps8
  go_wp2
  refine wp_loop_rounds 1 ?_
  rw [rounds_succ]
  go_wp2
  go_quiet (fail)
  go_wp2
  go_end0
  exact ⟨rfl, nq, rfl⟩

/-- WHAT HOLDS at the head of a round: the reader has come to r; all from p on are whitespace. -/
def Inv (w : World) (g b n c p : Nat) (z : Nat → Int) (r : Nat) (wr : World) : Prop :=
  JR wr g (some ⟨b, 0, none⟩) n c r ∧ p ≤ r ∧ r ≤ n ∧ (∀ j, p ≤ j → j < r → sp (z j) = true) ∧ RowIn .u8 wr b 5 n z ∧ Below g w wr
theorem Inv.step {w wr : World} {g b n c p r : Nat} {z : Nat → Int} (h : Inv w g b n c p z r wr) (hb : b < g) (hr : r < n) (hs : sp (z r) = true) (k : Nat) :
    Inv w g b n c p z (r + 1) ((wr.drewN k).setCell ⟨g, 1, none⟩ (.int .i64 ((r : Int) + 1))) := by
  obtain ⟨hj, h1, h2, h3, h4, h5⟩ := h
  refine ⟨(hj.drewN k).set _, by omega, by omega, fun j hj1 hj2 => ?_, RowIn.other (w := wr.drewN k) h4 (show b ≠ g by omega) _, (below_drewN h5 k).setCell (Nat.le_refl _) _⟩
  by_cases e : j = r
  · rw [e]; exact hs
  · exact h3 j hj1 (by omega)

set_option maxRecDepth 100000 in
set_option maxHeartbeats 1600000 in
theorem skip_in (g b n c p : Nat) (z : Nat → Int) (w : World) (hp : p < n) (hn : n ≤ 1048576) (hj : JR w g (some ⟨b, 0, none⟩) n c p) (hr : RowIn .u8 w b 5 n z) (hb : b < g) :
    Calls Trym.prog 8 #[.pointer (some ⟨g, 0, none⟩)] w fun e w' => e = .returned (.tuple #[]) ∧ ∃ r, Inv w g b n c p z r w' ∧ (r < n → sp (z r) = false) := by
  have HST : Hid (Inv w g b n c p z p w) := ⟨hj, by omega, by omega, fun j h1 h2 => by omega, hr, Below.refl _ _⟩
  clear hj hr
  go_enter Trym.func8, Trym.ntmps8
  go_wp2
  go_loopg [] (n - p) (fun k wr => ∃ r, Hid (k = n - r) ∧ Inv w g b n c p z r wr)
  case atStart => exact ⟨p, rfl, HST.out⟩
  case round =>
    clear HST
    obtain ⟨r, HK, hinv⟩ := hrel
    have hr1 : r ≤ n := hinv.2.2.1
    have g1 := hinv.1.doc
    have g2 := hinv.1.pos
    have g3 := hinv.1.free 1
    by_cases hlt : r < n
    · have g4 := hinv.2.2.2.2.1.cell hlt
      have hd : ((r : Int) < (n : Int)) := by omega
      by_cases hs : sp (z r) = true
      · have HI : Hid (∀ k, Inv w g b n c p z (r + 1) ((wr.drewN k).setCell ⟨g, 1, none⟩ (.int .i64 ((r : Int) + 1)))) := fun k => hinv.step hb hlt hs k
        clear hinv
        unfold sp at hs
        generalize z r = y at g4 hs
        have h4 : y = 32 ∨ y = 9 ∨ y = 10 ∨ y = 13 := by simp at hs; omega
        clear hs
        rcases h4 with rfl | rfl | rfl | rfl
        all_goals
          go_wp2
          go_quiet (fail)
          go_wp2
          go_quiet (fail)
          go_wp2
          go_roundg (n - (r + 1))
          case measure => have := HK.out; omega
          case rel => exact ⟨r + 1, rfl, HI.out _⟩
      · have hsf : sp (z r) = false := by simpa using hs
        have HI : Hid (∀ k, ∃ r, Inv w g b n c p z r (wr.drewN k) ∧ (r < n → sp (z r) = false)) := fun k => ⟨r, ⟨hinv.1.drewN k, hinv.2.1, hinv.2.2.1, hinv.2.2.2.1, hinv.2.2.2.2.1, below_drewN hinv.2.2.2.2.2 k⟩, fun _ => hsf⟩
        clear hinv hs
        unfold sp at hsf
        generalize z r = y at g4 hsf
        have c1 : (y == 32) = false := by simp at hsf ⊢; omega
        have c2 : (y == 9) = false := by simp at hsf ⊢; omega
        have c3 : (y == 10) = false := by simp at hsf ⊢; omega
        have c4 : (y == 13) = false := by simp at hsf ⊢; omega
        clear hsf
        go_wp2
        go_quiet (fail)
        go_wp2
        go_quiet (fail)
        go_wp2
        refine bodyPost_ret (results_none rfl _ _ _) rfl ?_
        exact ⟨rfl, HI.out _⟩
    · have HI : Hid (∀ k, ∃ r, Inv w g b n c p z r (wr.drewN k) ∧ (r < n → sp (z r) = false)) := fun k => ⟨r, ⟨hinv.1.drewN k, hinv.2.1, hinv.2.2.1, hinv.2.2.2.1, hinv.2.2.2.2.1, below_drewN hinv.2.2.2.2.2 k⟩, fun h => absurd h hlt⟩
      clear hinv
      go_wp2
      go_quiet (fail)
      go_wp2
      go_end0
      exact ⟨rfl, HI.out _⟩

set_option maxRecDepth 100000 in
theorem space_any (y : Int) (w : World) : Calls Trym.prog 7 #[.int .u8 y] w fun e w' => e = .returned (.bool (sp y)) ∧ w' = w := by
  by_cases h1 : y = 32
  · subst h1
    go_enter Trym.func7, Trym.ntmps7
    go_wp2
    go_ret
    exact ⟨rfl, rfl⟩
  · by_cases h2 : y = 9
    · subst h2
      go_enter Trym.func7, Trym.ntmps7
      go_wp2
      go_ret
      exact ⟨rfl, rfl⟩
    · by_cases h3 : y = 10
      · subst h3
        go_enter Trym.func7, Trym.ntmps7
        go_wp2
        go_ret
        exact ⟨rfl, rfl⟩
      · have c1 : (y == 32) = false := by simpa using h1
        have c2 : (y == 9) = false := by simpa using h2
        have c3 : (y == 10) = false := by simpa using h3
        have HS : Hid (sp y = (y == 13)) := by unfold Hid sp; rw [c1, c2, c3]; rfl
        rw [HS.out]
        go_enter Trym.func7, Trym.ntmps7
        go_wp2
        go_ret
        exact ⟨rfl, rfl⟩

set_option maxRecDepth 100000 in
set_option maxHeartbeats 800000 in
/-- At or past the end the offset is left as it is. -/
theorem zzskip_end (q : Option Addr) (n c p : Nat) (w : World) (hp : n ≤ p) :
    Calls Trym.prog 6 #[.slice q n c, .int .i64 p] w fun e w' => e = .returned (.int .i64 p) ∧ Below w.heap.size w w' := by
  go_enter Trym.func6, Trym.ntmps6
  go_wp2_with fail
  refine (skip_end w.heap.size q n c p _ hp (heap_alloc_new w _)).mono ?_
  rintro e w1 ⟨rfl, k, rfl⟩
  go_wp2
  go_ret
  exact ⟨rfl, below_drewN ((Below.refl _ _).alloc (Nat.le_refl _) _) _⟩

set_option maxRecDepth 100000 in
set_option maxHeartbeats 800000 in
theorem zzskip_in (b n c p : Nat) (z : Nat → Int) (w : World) (hp : p < n) (hn : n ≤ 1048576) (hr : RowIn .u8 w b 5 n z) :
    Calls Trym.prog 6 #[.slice (some ⟨b, 0, none⟩) n c, .int .i64 p] w fun e w' => ∃ r : Nat, e = .returned (.int .i64 r) ∧ p ≤ r ∧ r ≤ n ∧ (∀ j, p ≤ j → j < r → sp (z j) = true) ∧ (r < n → sp (z r) = false) ∧ Below w.heap.size w w' := by
  have HR : Hid (RowIn .u8 w b 5 n z) := hr
  clear hr
  go_enter Trym.func6, Trym.ntmps6
  go_wp2_with fail
  refine (skip_in w.heap.size b n c p z _ hp hn (heap_alloc_new w _) (HR.out.alloc _) HR.out.lt).mono ?_
  rintro e w1 ⟨rfl, r, hinv, hr⟩
  have g2 := hinv.1.pos
  have HI : Hid (p ≤ r ∧ r ≤ n ∧ (∀ j, p ≤ j → j < r → sp (z j) = true) ∧ (r < n → sp (z r) = false) ∧ Below w.heap.size w w1) :=
    ⟨hinv.2.1, hinv.2.2.1, hinv.2.2.2.1, hr, ((Below.refl _ _).alloc (Nat.le_refl _) _).trans hinv.2.2.2.2.2⟩
  clear hinv hr
  go_wp2
  go_ret
  exact ⟨r, rfl, HI.out⟩
end Go.Proofs.Qxb6604173aMods
