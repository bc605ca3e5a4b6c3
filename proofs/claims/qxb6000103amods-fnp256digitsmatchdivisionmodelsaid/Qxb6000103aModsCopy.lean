/-
  THE WALK of 'zzCopyScalar'.
-/
import Derived.Test.Qxb6000103aModsRows
import Derived.WalkKit
import Derived.Test.Qxb6000103aModsRowIn
namespace Go.Proofs.Qxb6000103aMods
open Go.RowKit Plain

theorem make32 (w : World) : (Instr.makeSlice 22 (.int .i64 32) (.int .i64 32)).run Trym.prog w = .ok (.slice (some ⟨w.heap.size, 0, none⟩) 32 32) (w.alloc (.cells (row .u8 32 (fun _ => 0)) 5)) := by
  kernel_rfl

set_option maxHeartbeats 400000 in
theorem copy_any (b off cap : Nat) (z : Nat → Int) (w : World) (hc : ∀ i, i < 32 → w.cell? ⟨b, off + i, none⟩ = some (.int .u8 (z i))) :
    Calls Trym.prog 9 #[.slice (some ⟨b, off, none⟩) 32 cap] w fun e w' => e = .returned (.slice (some ⟨w.heap.size, 0, none⟩) 32 32) ∧ RowIn .u8 w' w.heap.size 5 32 z ∧ w'.heap.size = w.heap.size + 1 ∧ Below w.heap.size w w' := by
  have hmk := make32 w
  go_enter Trym.func9, Trym.ntmps9
  go_wp2
  go_loopw [4] (fun i wr => ∃ k : Nat, k ≤ 32 ∧ i = .int .i64 k ∧ RowIn .u8 wr w.heap.size 5 32 (fun j => if j < k then z j else 0) ∧ wr.heap.size = w.heap.size + 1 ∧ Below w.heap.size w wr)
    (fun i _ => 32 - (intOf i).toNat)
  case atStart => exact ⟨0, by omega, rfl, RowIn.new _ _ _ _ _, by simp, (Below.refl _ _).alloc (Nat.le_refl _) _⟩
  case round =>
    obtain ⟨k, hk, rfl, hrow, hsz, hbel⟩ := hrel
    by_cases hlt : k < 32
    · have hb : b < w.heap.size := block_lt_of_cell (hc 0 (by omega))
      have g1 : wr.cell? ⟨b, off + k, none⟩ = some (.int .u8 (z k)) := (hbel.cell (by exact hb)).trans (hc k hlt)
      have g2 := hrow.cell hlt
      have g3 := hrow.free k
      simp only [Nat.lt_irrefl, if_false] at g2
      have R : RowIn .u8 (wr.setCell ⟨w.heap.size, k, none⟩ (.int .u8 (z k))) w.heap.size 5 32 (fun j => if j < k + 1 then z j else 0) :=
        (hrow.setCell k (z k)).congr (fun j _ => by unfold upd; by_cases e : j = k <;> simp [e]; by_cases e2 : j < k <;> simp [e2]; all_goals omega)
      have HR : Hid (RowIn .u8 (wr.setCell ⟨w.heap.size, k, none⟩ (.int .u8 (z k))) w.heap.size 5 32 (fun j => if j < k + 1 then z j else 0)) := R
      clear R hrow hc
      go_wp2
      go_roundw
      case rel => exact ⟨k + 1, by omega, by go_num, HR.out, by simpa using hsz, hbel.setCell (Nat.le_refl _) _⟩
      case measure => simp [intOf]; omega
    · obtain rfl : k = 32 := by omega
      go_wp2
      go_ret
      exact ⟨rfl, hrow.congr (fun j hj => by simp [hj]), hsz, hbel⟩
end Go.Proofs.Qxb6000103aMods
