/-
  THE WALK of 'p256Digits' and 'ZZp256Digits'.
-/
import Derived.Test.Qxb6000103aModsRows
import Derived.WalkKit
import Derived.WalkLawsBesides
import Derived.Test.Qxb6000103aModsRowIn
import Derived.Test.Qxb6000103aModsArith
namespace Go.Proofs.Qxb6000103aMods
open Go.RowKit Plain

theorem zero43 : (#[.int .i64 0, .int .i64 0, .int .i64 0, .int .i64 0, .int .i64 0, .int .i64 0, .int .i64 0, .int .i64 0, .int .i64 0, .int .i64 0, .int .i64 0, .int .i64 0, .int .i64 0, .int .i64 0, .int .i64 0, .int .i64 0, .int .i64 0, .int .i64 0, .int .i64 0, .int .i64 0, .int .i64 0, .int .i64 0, .int .i64 0, .int .i64 0, .int .i64 0, .int .i64 0, .int .i64 0, .int .i64 0, .int .i64 0, .int .i64 0, .int .i64 0, .int .i64 0, .int .i64 0, .int .i64 0, .int .i64 0, .int .i64 0, .int .i64 0, .int .i64 0, .int .i64 0, .int .i64 0, .int .i64 0, .int .i64 0, .int .i64 0] : Array Value) = row .i64 43 (fun _ => 0) := by kernel_rfl

theorem size25 {f : Nat → Int} : (Trym.prog.info? 25).map (·.size) = some (row .i64 43 f).size := by rw [row_size]; kernel_rfl

set_option maxRecDepth 100000 in
set_option maxHeartbeats 400000 in
theorem digits_any (b : Nat) (z : Nat → Int) (w : World) (hc : ∀ i, i < 32 → w.cell? ⟨b, i, none⟩ = some (.int .u8 (z i))) (hz : ∀ i, i < 32 → 0 ≤ z i ∧ z i ≤ 255) (N : Int) (hN : Hid (N = V 32 (fun k => z (31 - k)))) :
    Calls Trym.prog 18 #[.slice (some ⟨b, 0, none⟩) 32 32] w fun e w' => e = .returned (.agg (row .i64 43 (dig N))) ∧ Below w.heap.size w w' := by
  go_enter Trym.func18, Trym.ntmps18
  go_wp2
  go_loopw [4, 9] (fun c i wr => ∃ k : Nat, k ≤ 43 ∧ i = .int .i64 k ∧ c = .int .i64 (carry N k) ∧ RowIn .i64 wr (w.heap.size + 1) 25 43 (fun j => if j < k then dig N j else 0) ∧ RowIn .i64 wr w.heap.size 25 43 (fun _ => 0) ∧ wr.heap.size = w.heap.size + 2 ∧ Below w.heap.size w wr)
    (fun _ i _ => 43 - (intOf i).toNat)
  case atStart =>
    rw [zero43]
    exact ⟨0, by omega, rfl, rfl, by simpa using RowIn.new .i64 (w.alloc (.cells (row .i64 43 (fun _ => 0)) 25)) 25 43 (fun _ => 0), (RowIn.new _ _ _ _ _).alloc _, by simp, ((Below.refl _ _).alloc (Nat.le_refl _) _).alloc (by simp) _⟩
  case round =>
    obtain ⟨k, hk, rfl, rfl, hrow, hrow0, hsz, hbel⟩ := hrel
    by_cases hlt : k < 43
    · have hb : b < w.heap.size := block_lt_of_cell (hc 0 (by omega))
      have hc1 : ∀ i, i < 32 → wr.cell? ⟨b, i, none⟩ = some (.int .u8 (z i)) := fun i hi => (hbel.cell (by exact hb)).trans (hc i hi)
      clear hc
      have HC : Hid (∀ i, i < 32 → wr.cell? ⟨b, i, none⟩ = some (.int .u8 (z i))) := hc1
      clear hc1
      have HZ : Hid (∀ i, i < 32 → 0 ≤ z i ∧ z i ≤ 255) := hz
      clear hz
      have hcb := carry_01 N k
      go_wp2
      go_loop [6, 13] (fun d i => ∃ m : Nat, m ≤ 6 ∧ i = .int .i64 m ∧ d = .int .i64 (carry N k + lo (sh N (6 * k)) m)) (fun _ i => 6 - (intOf i).toNat)
      case atStart => exact ⟨0, by omega, rfl, by simp [lo]⟩
      case round =>
        obtain ⟨m, hm, rfl, rfl⟩ := hrel
        have hlo := lo_bounds (sh N (6 * k)) m hm
        by_cases hltm : m < 6
        · by_cases hbit : k * 6 + m < 256
          · have hq : 31 - (k * 6 + m) / 8 < 32 := by omega
            have g1 := HC.out _ hq
            have g2 := HZ.out _ hq
            generalize hy : z (31 - (k * 6 + m) / 8) = y at g1 g2
            have HY : Hid (z (31 - (k * 6 + m) / 8) = y) := hy
            clear hy
            go_wp2
            go_round
            case rel =>
              refine ⟨m + 1, by omega, by go_num, ?_⟩
              rw [bit_step y _ _ m g2 hltm (by omega), ← HY.out, bit_of z N hN.out HZ.out k m hbit, Int.add_assoc]
              rfl
            case measure => simp [intOf]; omega
          · go_wp2
            go_round
            case rel =>
              refine ⟨m + 1, by omega, by go_num, ?_⟩
              simp only [lo]
              rw [bit_top z N hN.out HZ.out k m hbit]
              simp
            case measure => simp [intOf]; omega
        · obtain rfl : m = 6 := by omega
          have hl6 : Hid (lo (sh N (6 * k)) 6 = sh N (6 * k) % 64) := lo_6 _
          have g1 := hrow.cell hlt
          have g2 := hrow.free k
          by_cases hc : 32 < carry N k + lo (sh N (6 * k)) 6
          · have hcd := carry_hi N k (by rw [← hl6.out]; exact hc)
            have HCD : Hid (carry N (k + 1) = 1 ∧ dig N k = carry N k + sh N (6 * k) % 64 - 64) := hcd
            clear hcd
            go_wp2
            go_roundw
            case rel => exact ⟨k + 1, by omega, by go_num, by rw [HCD.out.1], hrow.snoc (by rw [hl6.out, HCD.out.2]), hrow0.other (by simp) _, by simpa using hsz, hbel.setCell (by simp) _⟩
            case measure => simp [intOf]; omega
          · have hcd := carry_lo N k (by rw [← hl6.out]; exact hc)
            have HCD : Hid (carry N (k + 1) = 0 ∧ dig N k = carry N k + sh N (6 * k) % 64) := hcd
            clear hcd
            go_wp2
            go_roundw
            case rel => exact ⟨k + 1, by omega, by go_num, by rw [HCD.out.1], hrow.snoc (by rw [hl6.out, HCD.out.2]), hrow0.other (by simp) _, by simpa using hsz, hbel.setCell (by simp) _⟩
            case measure => simp [intOf]; omega
    · obtain rfl : k = 43 := by omega
      have hrow' : RowIn .i64 wr (w.heap.size + 1) 25 43 (dig N) := hrow.congr (fun j hj => by rw [if_pos hj])
      clear hrow
      go_wp2_with (first
        | refine wpList_load_row rfl 25 _ rfl (w.heap.size + 1) rfl 25 _ (0, 0) _ hrow' Trym.underlying25 rfl size25 ?_
        | refine wpList_store_row rfl 25 _ _ rfl w.heap.size _ rfl rfl 25 _ hrow0 size25 (by rw [row_size, row_size]) (row_oneCell _ _ _) ?_)
      exact bodyPost_ret (v := .agg (row .i64 43 (dig N))) (results_cell_row Trym.results18 _ _ w.heap.size 25 _ (0, 0) _ rfl (hrow0.setRow _) Trym.underlying25 rfl size25) rfl ⟨rfl, Below_setRow hbel (Nat.le_refl _) _⟩

set_option maxRecDepth 100000 in
set_option maxHeartbeats 400000 in
theorem zzdigits_any (b : Nat) (z : Nat → Int) (w : World) (hc : ∀ i, i < 32 → w.cell? ⟨b, i, none⟩ = some (.int .u8 (z i))) (hz : ∀ i, i < 32 → 0 ≤ z i ∧ z i ≤ 255) (N : Int) (hN : Hid (N = V 32 (fun k => z (31 - k)))) :
    Calls Trym.prog 10 #[.slice (some ⟨b, 0, none⟩) 32 32] w fun e w' => e = .returned (.agg (row .i64 43 (dig N))) ∧ Below w.heap.size w w' := by
  have hb : b < w.heap.size := block_lt_of_cell (hc 0 (by omega))
  have hcn : ∀ o : Obj, ∀ i, i < 32 → (w.alloc o).cell? ⟨b, i, none⟩ = some (.int .u8 (z i)) := fun o i hi => (World.cell?_alloc_lt w o _ hb).trans (hc i hi)
  have HCN : Hid (∀ o : Obj, ∀ i, i < 32 → (w.alloc o).cell? ⟨b, i, none⟩ = some (.int .u8 (z i))) := hcn
  have HZ : Hid (∀ i, i < 32 → 0 ≤ z i ∧ z i ≤ 255) := hz
  clear hc hcn hz
  go_enter Trym.func10, Trym.ntmps10
  go_wp2_with fail
  rw [zero43]
  refine (digits_any b z _ (HCN.out _) HZ.out N hN).mono ?_
  rintro e w1 ⟨rfl, hbel⟩
  have hr0 : RowIn .i64 w1 w.heap.size 25 43 (fun _ => 0) := (RowIn.new .i64 w 25 43 (fun _ => 0)).below hbel (by simp)
  go_wp2_with (refine wpList_store_row rfl 25 _ _ rfl w.heap.size _ rfl rfl 25 _ hr0 size25 (by rw [row_size, row_size]) (row_oneCell _ _ _) ?_)
  exact bodyPost_ret (v := .agg (row .i64 43 (dig N))) (results_cell_row Trym.results10 _ _ w.heap.size 25 _ (0, 0) _ rfl (hr0.setRow _) Trym.underlying25 rfl size25) rfl ⟨rfl, Below_setRow (((Below.refl _ _).alloc (Nat.le_refl _) _).trans (hbel.mono (by simp))) (Nat.le_refl _) _⟩
end Go.Proofs.Qxb6000103aMods
