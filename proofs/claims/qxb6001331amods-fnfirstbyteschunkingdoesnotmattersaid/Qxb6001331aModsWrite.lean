/-
  THE WALKS of '(*firstBytes).Write', 'ZZFirstBytesKept'.
-/
import Derived.Test.Qxb6001331aModsRows
import Derived.WalkKit
import Derived.WalkSpells
import Derived.WalkLawsBesides
import Derived.Laws.CopyOwn
import Derived.Deep.RegionLaw
import Derived.Deep.QuietTactic
import Derived.BigQuiet
import Derived.Test.Qxb6001331aModsCopyLaw
namespace Go.Proofs.Qxb6001331aMods
open Go.RowKit

theorem size5 : (Trym.prog.info? 5).map (·.size) = some 1 := by kernel_rfl

/-- How many bytes are kept behind a Write of m bytes. -/
def kept (n m : Nat) : Nat := n + Nat.min m (1024 - n)
theorem FB.setNum {w : World} {g : Nat} {f : Nat → Int} {n : Int} (h : FB w g f n) (n' : Int) : FB (w.setCell ⟨g, 1024, none⟩ (.int .i64 n')) g f n' := by
  unfold FB
  rw [heap_setCell_same w g 1024 _ 38 _ h]
  rw [show (fbCells f n).setIfInBounds 1024 (.int .i64 n') = fbCells f n' from ?_]
  apply Array.ext_getElem?
  intro j
  rw [Array.getElem?_setIfInBounds]
  by_cases hj : 1024 = j
  · subst hj; rw [if_pos rfl, if_pos (by rw [fbCells_size]; omega), fbCells_n]
  · rw [if_neg hj]
    by_cases hj2 : j < 1024
    · rw [fbCells_get hj2, fbCells_get hj2]
    · rw [fbCells_out (by omega), fbCells_out (by omega)]
theorem FB.row {w : World} {g : Nat} {f : Nat → Int} {n : Int} (h : FB w g f n) (f' : Nat → Int) : FB (w.setRow g (fbCells f' n)) g f' n := setRow_heap w g _ _ 38 _ h

theorem wrote_only (w : World) (g j : Nat) (cs : Array Value) (v : Value) : OnlyAt g w ((w.drew.setRow g cs).setCell ⟨g, j, none⟩ v) :=
  ⟨rfl, rfl, rfl, by simp, fun k hk => by rw [heap_setCell_other _ _ _ _ hk, setRow_other _ _ _ _ hk]; rfl⟩

set_option maxRecDepth 100000 in
set_option maxHeartbeats 800000 in
theorem write_any (g : Nat) (f : Nat → Int) (n : Nat) (sp : Option Addr) (m c : Nat) (src : Nat → Int) (w : World) (hfb : FB w g f n) (hn : n ≤ 1024) (hs : Src w sp m src) :
    Calls Trym.prog 9 #[.pointer (some ⟨g, 0, none⟩), .slice sp m c] w fun e w' => e = .returned (.tuple #[.int .i64 m, .nilIface]) ∧ FB w' g (wrote f n m src) (kept n m) ∧ OnlyAt g w w' := by
  have hnum := hfb.num
  have hfree := hfb.free 1024
  have hn1 : (0 : Int) ≤ (n : Int) := by omega
  have hn2 : (n : Int) ≤ 1024 := by omega
  obtain ⟨cs, hcs⟩ : ∃ cs, Hid (cs = over n m src) := ⟨_, rfl⟩
  have HL : Hid (cs.length = Nat.min m (1024 - n)) := by rw [hcs.out]; exact over_length _ _ _
  have hl : cs.length ≤ 1024 := by rw [HL.out]; have : Nat.min m (1024 - n) ≤ 1024 - n := Nat.min_le_right _ _; omega
  have HP : Hid (0 < cs.length → (some (if 1024 = n then (⟨g, 0, none⟩ : Addr) else ⟨g, n, none⟩)) = some ⟨g, n, none⟩ ∧ ∃ ad, sp = some ad ∧ ∀ j v, cs[j]? = some v → w.drew.cell? (ad.add j) = some v) := by rw [hcs.out]; exact over_src n g hs
  have HF : Hid (n + cs.length ≤ (fbCells f n).size) := by rw [hcs.out]; exact over_fit _ _ _ _ _ hn
  have H1 : Hid (∀ v ∈ cs, v.oneCell' = true) := by rw [hcs.out]; exact over_one _ _ _
  have HC : Hid (fbCells (wrote f n m src) n = ((fbCells f n).toList.take n ++ (cs ++ (fbCells f n).toList.drop (n + cs.length))).toArray) := by rw [hcs.out]; exact over_row _ _ _ _ _ hn
  have HFB : Hid (FB w g f n) := hfb
  have hnum2 : (w.drew.setRow g (fbCells (wrote f n m src) n)).cell? ⟨g, 1024, none⟩ = some (.int .i64 n) := (HFB.out.row (wrote f n m src)).num
  have hfree2 : (w.drew.setRow g (fbCells (wrote f n m src) n)).frozen? ⟨g, 1024, none⟩ = false := (HFB.out.row (wrote f n m src)).free 1024
  clear hs hfb
  go_enter Trym.func9, Trym.ntmps9
  go_wp2
  go_region_law
    ((refine step_copy_to (by rfl) (.tmp 17) (.tmp 18) 22 22 (by rfl) 5 Trym.underlying22 size5 _ _ _ _ _ _ (by rfl) (by rfl) g n (fbCells f n) (fbCells (wrote f n m src) n) 38 HFB.out cs HL.out HP.out HF.out H1.out HC.out ?_))
  all_goals
    have hwrap : IntKind.i64.wrap ((n : Int) + (cs.length : Int)) = ((kept n m : Nat) : Int) := by
      rw [IntKind.wrap_i64]; have := HL.out; unfold kept; omega
    have hfin : FB ((w.drew.setRow g (fbCells (wrote f n m src) n)).setCell ⟨g, 1024, none⟩ (.int .i64 (IntKind.i64.wrap ((n : Int) + (cs.length : Int))))) g (wrote f n m src) (kept n m) ∧
        OnlyAt g w ((w.drew.setRow g (fbCells (wrote f n m src) n)).setCell ⟨g, 1024, none⟩ (.int .i64 (IntKind.i64.wrap ((n : Int) + (cs.length : Int))))) := by
      rw [hwrap]
      exact ⟨(HFB.out.row (w := w.drew) (wrote f n m src)).setNum _, wrote_only w g _ _ _⟩
    generalize (w.drew.setRow g (fbCells (wrote f n m src) n)).setCell ⟨g, 1024, none⟩ (.int .i64 (IntKind.i64.wrap ((n : Int) + (cs.length : Int)))) = W at hfin ⊢
    have HW : Hid (FB W g (wrote f n m src) (kept n m) ∧ OnlyAt g w W) := hfin
    clear hfin hwrap hnum hnum2 hfree hfree2 HFB HC H1 HF HP HL hcs hl
    go_wp2
    all_goals (go_ret2; exact ⟨rfl, HW.out⟩)

set_option maxRecDepth 100000 in
set_option maxHeartbeats 800000 in
theorem kept_any (g : Nat) (f : Nat → Int) (n : Nat) (w : World) (hfb : FB w g f n) (hn : n ≤ 1024) :
    Calls Trym.prog 10 #[.pointer (some ⟨g, 0, none⟩)] w fun e w' => e = .returned (.slice (some ⟨g, 0, none⟩) n 1024) ∧ ∃ q, w' = w.drewN q := by
  have hnum := hfb.num
  have hn1 : (0 : Int) ≤ (n : Int) := by omega
  have hn2 : (n : Int) ≤ 1024 := by omega
  clear hfb
  go_enter Trym.func10, Trym.ntmps10
  go_wp2
  go_quiet (fail)
  go_wp2
  go_ret
  exact ⟨rfl, nq, rfl⟩
end Go.Proofs.Qxb6001331aMods
