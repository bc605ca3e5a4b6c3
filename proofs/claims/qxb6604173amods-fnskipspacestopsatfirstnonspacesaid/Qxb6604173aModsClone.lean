/-
  THE WALK of 'cloneBytes': a fresh copy of a slice of bytes.
-/
import Derived.Test.Qxb6604173aModsRows
import Derived.WalkKit
import Derived.WalkSpells
import Derived.WalkLawsBesides
import Derived.Test.Qxb6604173aModsRowIn
namespace Go.Proofs.Qxb6604173aMods
open Go.RowKit

theorem info5 : (Trym.prog.info? 5).map (fun i => (i.zero, i.size, i.bytes)) = some (some (.int .u8 0), 1, 1) := by kernel_rfl
/-- 'make([]byte, n)'. -/
theorem make_bytes (n : Nat) (hn : n ≤ 1048576) (w : World) :
    (Instr.makeSlice 22 (.int .i64 (n : Int)) (.int .i64 (n : Int))).run Trym.prog w = .ok (.slice (some ⟨w.heap.size, 0, none⟩) n n) (w.alloc (.cells (row .u8 n (fun _ => 0)) 5)) := by
  obtain ⟨i0, hi, hz0, hz1, hz2⟩ := info_parts info5
  have h := run_make (P := Trym.prog) w 22 5 i0 (.int .u8 0) Trym.underlying22 hi hz0 .i64 .i64 (n : Int) (n : Int) (by omega) (by omega) (by rw [hz2]; omega) (by omega)
  rw [hz1, Int.toNat_natCast, Nat.mul_one] at h
  rw [h, show (Value.int IntKind.u8 0).cells = #[.int .u8 0] from rfl, row_made]

/-- A slice of n bytes z at the address p, in the world w (of an empty one nothing is said). -/
def Src (w : World) (p : Option Addr) (n : Nat) (z : Nat → Int) : Prop := 0 < n → ∃ b off, p = some ⟨b, off, none⟩ ∧ ∀ j, j < n → w.cell? ⟨b, off + j, none⟩ = some (.int .u8 (z j))
/-- A slice of n bytes z over a whole block below block number B. -/
def Own (B : Nat) (w : World) (p : Option Addr) (n : Nat) (z : Nat → Int) : Prop := 0 < n → ∃ g, g < B ∧ p = some ⟨g, 0, none⟩ ∧ RowIn .u8 w g 5 n z
theorem Own.src {B : Nat} {w : World} {p : Option Addr} {n : Nat} {z : Nat → Int} (h : Own B w p n z) : Src w p n z := fun hn => by
  obtain ⟨g, _, rfl, hr⟩ := h hn
  exact ⟨g, 0, rfl, fun j hj => by rw [Nat.zero_add]; exact hr.cell hj⟩
theorem Own.keep {B B' : Nat} {w w' : World} {p : Option Addr} {n : Nat} {z : Nat → Int} (h : Own B w p n z) (hB : B ≤ B') (hk : ∀ k, k < B → w'.heap[k]? = w.heap[k]?) : Own B' w' p n z := fun hn => by
  obtain ⟨g, hg, rfl, hr⟩ := h hn
  exact ⟨g, by omega, rfl, by unfold RowIn; rw [hk g hg]; exact hr⟩
theorem Src.below {B : Nat} {w w' : World} {p : Option Addr} {n : Nat} {z : Nat → Int} (h : Src w p n z) (hb : Below B w w') (hB : w.heap.size ≤ B) : Src w' p n z := fun hn => by
  obtain ⟨b, off, rfl, hc⟩ := h hn
  refine ⟨b, off, rfl, fun j hj => ?_⟩
  have hlt : b < w.heap.size := block_lt_of_cell (hc 0 hn)
  exact (hb.cell (p := ⟨b, off + j, none⟩) (by show b < B; omega)).trans (hc j hj)

theorem clone_nil (w : World) : Calls Trym.prog 5 #[.slice none 0 0] w fun e w' => e = .returned (.slice none 0 0) ∧ w' = w := by
  have hnil := fun (a : Option Addr) (n c : Nat) => Lib.run_eql_slice_nil (P := Trym.prog) w 22 5 a n c 0 0 Trym.underlying22
  go_enter Trym.func5, Trym.ntmps5
  go_wp2
  go_ret
  exact ⟨rfl, rfl⟩

set_option maxHeartbeats 400000 in
theorem clone_zero (x : Addr) (cap : Nat) (w : World) : Calls Trym.prog 5 #[.slice (some x) 0 cap] w fun e w' => e = .returned (.slice (some ⟨w.heap.size, 0, none⟩) 0 0) ∧ Below w.heap.size w w' ∧ w.heap.size < w'.heap.size := by
  have hnil := fun (a : Option Addr) (n c : Nat) => Lib.run_eql_slice_nil (P := Trym.prog) w 22 5 a n c 0 0 Trym.underlying22
  have hmk := make_bytes 0 (by omega) w
  simp only [Int.natCast_zero] at hmk
  go_enter Trym.func5, Trym.ntmps5
  go_wp2
  refine wp_loop_rounds 1 ?_
  rw [rounds_succ]
  go_wp2
  go_ret
  exact ⟨rfl, (Below.refl _ _).alloc (Nat.le_refl _) _, by simp⟩

set_option maxHeartbeats 400000 in
theorem clone_some (b off n cap : Nat) (z : Nat → Int) (w : World) (hn : n ≤ 1048576) (hp : 0 < n) (hc : ∀ i, i < n → w.cell? ⟨b, off + i, none⟩ = some (.int .u8 (z i))) :
    Calls Trym.prog 5 #[.slice (some ⟨b, off, none⟩) n cap] w fun e w' => e = .returned (.slice (some ⟨w.heap.size, 0, none⟩) n n) ∧ RowIn .u8 w' w.heap.size 5 n z ∧ Below w.heap.size w w' := by
  have hnil := fun (a : Option Addr) (n c : Nat) => Lib.run_eql_slice_nil (P := Trym.prog) w 22 5 a n c 0 0 Trym.underlying22
  have hmk := make_bytes n hn w
  go_enter Trym.func5, Trym.ntmps5
  go_wp2
  go_loopw [4] (fun i wr => ∃ k : Nat, k ≤ n ∧ i = .int .i64 k ∧ RowIn .u8 wr w.heap.size 5 n (fun j => if j < k then z j else 0) ∧ Below w.heap.size w wr)
    (fun i _ => n - (intOf i).toNat)
  case atStart => exact ⟨0, by omega, rfl, RowIn.new _ _ _ _ _, (Below.refl _ _).alloc (Nat.le_refl _) _⟩
  case round =>
    obtain ⟨k, hk, rfl, hrow, hbel⟩ := hrel
    clear hmk hnil
    by_cases hlt : k < n
    · have hb : b < w.heap.size := block_lt_of_cell (hc 0 (by omega))
      have g1 : wr.cell? ⟨b, off + k, none⟩ = some (.int .u8 (z k)) := (hbel.cell (by exact hb)).trans (hc k hlt)
      have g2 := hrow.cell hlt
      have g3 := hrow.free k
      clear hc
      go_wp2
      go_roundw
      case rel => exact ⟨k + 1, by omega, by go_num, hrow.snoc rfl, hbel.setCell (Nat.le_refl _) _⟩
      case measure => simp [intOf]; omega
    · obtain rfl : k = n := by omega
      clear hc
      go_wp2
      go_ret
      exact ⟨rfl, hrow.congr (fun j hj => by rw [if_pos hj]), hbel⟩

theorem clone_any (p : Option Addr) (n cap : Nat) (z : Nat → Int) (w : World) (hn : n ≤ 1048576) (hnil : p = none → n = 0 ∧ cap = 0) (hs : Src w p n z) :
    Calls Trym.prog 5 #[.slice p n cap] w fun e w' => ∃ q, e = .returned (.slice q n n) ∧ Own w'.heap.size w' q n z ∧ Below w.heap.size w w' := by
  cases p with
  | none =>
    obtain ⟨rfl, rfl⟩ := hnil rfl
    exact (clone_nil w).mono fun e w' ⟨he, hw⟩ => ⟨none, he, fun h => by omega, by rw [hw]; exact Below.refl _ _⟩
  | some x =>
    by_cases h0 : n = 0
    · subst h0
      exact (clone_zero x cap w).mono fun e w' ⟨he, hb, _⟩ => ⟨_, he, fun h => by omega, hb⟩
    · obtain ⟨b, off, hx, hc⟩ := hs (by omega)
      obtain rfl : x = ⟨b, off, none⟩ := by simpa using hx
      exact (clone_some b off n cap z w hn (by omega) hc).mono fun e w' ⟨he, hr, hb⟩ => ⟨_, he, fun _ => ⟨_, hr.lt, rfl, hr⟩, hb⟩
end Go.Proofs.Qxb6604173aMods
