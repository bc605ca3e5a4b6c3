/-
  THE WALK of the law 'FnP256DigitsEvaluateBackToScalar'.
-/
import Derived.Test.Qxb6000103aModsRows
import Derived.WalkKit
import Derived.WalkLawsBesides
import Derived.Below
import Derived.RegionTactic
import Derived.Deep.QuietTactic
import Derived.BigQuiet
import Derived.Test.Qxb6000103aModsCopy
import Derived.Test.Qxb6000103aModsDigits
namespace Go.Proofs.Qxb6000103aMods.fnP256DigitsEvaluateBackToScalar
open Go.RowKit
open Plain
theorem zero34 : (#[.int .i64 0, .int .i64 0, .int .i64 0, .int .i64 0, .int .i64 0, .int .i64 0, .int .i64 0, .int .i64 0, .int .i64 0, .int .i64 0, .int .i64 0, .int .i64 0, .int .i64 0, .int .i64 0, .int .i64 0, .int .i64 0, .int .i64 0, .int .i64 0, .int .i64 0, .int .i64 0, .int .i64 0, .int .i64 0, .int .i64 0, .int .i64 0, .int .i64 0, .int .i64 0, .int .i64 0, .int .i64 0, .int .i64 0, .int .i64 0, .int .i64 0, .int .i64 0, .int .i64 0, .int .i64 0] : Array Value) = row .i64 34 (fun _ => 0) := by kernel_rfl
/-- WHAT HOLDS while the digits are summed up: k of them are in. -/
def Inv1 (N : Int) (z : Nat → Int) (w : World) (A B : Nat) (k : Nat) (wr : World) : Prop :=
  RowIn .u8 wr A 5 32 z ∧ RowIn .i64 wr B 25 43 (dig N) ∧ Below A w wr ∧ A < B ∧
  ∃ f, RowIn .i64 wr (B + 1) 27 34 f ∧ V 34 f + p2 (6 * k) * left N k = N ∧ ∀ j, -4096 * (k : Int) ≤ f j ∧ f j ≤ 4096 * (k : Int)

theorem mul_small (d : Int) (r : Nat) (hd : -31 ≤ d ∧ d ≤ 32) (hr : r < 8) : -4096 ≤ d * p2 r ∧ d * p2 r ≤ 4096 := by
  rcases (show r = 0 ∨ r = 1 ∨ r = 2 ∨ r = 3 ∨ r = 4 ∨ r = 5 ∨ r = 6 ∨ r = 7 by omega) with rfl | rfl | rfl | rfl | rfl | rfl | rfl | rfl <;> simp only [p2] <;> omega

theorem sum_step (N : Int) (f : Nat → Int) (k : Nat) (hk : k < 43) (hV : V 34 f + p2 (6 * k) * left N k = N) :
    V 34 (upd f (6 * k / 8) (f (6 * k / 8) + dig N k * p2 (6 * k % 8))) + p2 (6 * (k + 1)) * left N (k + 1) = N := by
  rw [V_upd 34 f _ _ (by omega)]
  rw [show f (6 * k / 8) + dig N k * p2 (6 * k % 8) - f (6 * k / 8) = dig N k * p2 (6 * k % 8) by omega]
  rw [Int.mul_assoc, ← p2_add, show 6 * k % 8 + 8 * (6 * k / 8) = 6 * k by omega, show 6 * (k + 1) = 6 * k + 6 by omega, p2_6]
  rw [left_step, Int.mul_add, Int.mul_left_comm] at hV
  rw [Int.mul_assoc, Int.mul_comm (dig N k)]
  omega

theorem inv1_step {N : Int} {z : Nat → Int} {w wr : World} {A B k : Nat} {f : Nat → Int} (hs : RowIn .u8 wr A 5 32 z) (hd : RowIn .i64 wr B 25 43 (dig N)) (hbel : Below A w wr) (hAB : A < B)
    (hf : RowIn .i64 wr (B + 1) 27 34 f) (hV : V 34 f + p2 (6 * k) * left N k = N) (hfb : ∀ j, -4096 * (k : Int) ≤ f j ∧ f j ≤ 4096 * (k : Int)) (hk : k < 43) :
    Inv1 N z w A B (k + 1) (wr.setCell ⟨B + 1, 6 * k / 8, none⟩ (.int .i64 (wrap64 (f (6 * k / 8) + wrap64 (dig N k * 2 ^ (6 * k % 8)))))).drew := by
  have hdb := mul_small (dig N k) (6 * k % 8) (dig_bounds N k) (by omega)
  have hb := hfb (6 * k / 8)
  rw [← p2_pow, wr64 (dig N k * p2 (6 * k % 8)) (by omega) (by omega), wr64 _ (by omega) (by omega)]
  refine ⟨(hs.other (by simp; omega) _).drew, (hd.other (by simp) _).drew, (hbel.setCell (by simp; omega) _).drew, hAB, _, (hf.setCell _ _).drew, sum_step N f k hk hV, fun j => ?_⟩
  unfold upd
  have := hfb j
  split <;> omega

/-- WHAT HOLDS while the sum is carried out in base 256: the places below k are done. -/
def Inv2 (N : Int) (z : Nat → Int) (w : World) (A B : Nat) (k : Nat) (wr : World) : Prop :=
  RowIn .u8 wr A 5 32 z ∧ Below A w wr ∧ A < B ∧
  ∃ f, RowIn .i64 wr (B + 1) 27 34 f ∧ V 34 f = N ∧ (∀ j, j < k → 0 ≤ f j ∧ f j ≤ 255) ∧ (∀ j, k < j → -180000 ≤ f j ∧ f j ≤ 180000) ∧ -190000 ≤ f k ∧ f k ≤ 190000

theorem inv2_start {N : Int} {z : Nat → Int} {w wr : World} {A B : Nat} (h : Inv1 N z w A B 43 wr) (h43 : left N 43 = 0) : Inv2 N z w A B 0 wr := by
  obtain ⟨hs, _, hbel, hAB, f, hf, hV, hfb⟩ := h
  refine ⟨hs, hbel, hAB, f, hf, by rw [h43] at hV; simpa using hV, fun j hj => by omega, fun j _ => ?_, ?_⟩
  · have := hfb j; omega
  · have := hfb 0; omega

theorem carry_step (f : Nat → Int) (k : Nat) (c : Int) (hk : k < 33) : V 34 (upd (upd f k (f k - c * 256)) (k + 1) (f (k + 1) + c)) = V 34 f := by
  rw [V_upd 34 _ _ _ (by omega), V_upd 34 _ _ _ (by omega), upd_other _ _ (by omega), show 8 * (k + 1) = 8 * k + 8 by omega, p2_8,
    show f k - c * 256 - f k = -(c * 256) by omega, show f (k + 1) + c - f (k + 1) = c by omega, Int.neg_mul, Int.mul_assoc]
  omega

theorem inv2_step {N : Int} {z : Nat → Int} {w wr : World} {A B k : Nat} {f : Nat → Int} (hs : RowIn .u8 wr A 5 32 z) (hbel : Below A w wr) (hAB : A < B)
    (hf : RowIn .i64 wr (B + 1) 27 34 f) (hV : V 34 f = N) (hdone : ∀ j, j < k → 0 ≤ f j ∧ f j ≤ 255) (hfb : ∀ j, k < j → -180000 ≤ f j ∧ f j ≤ 180000) (hfk : -190000 ≤ f k ∧ f k ≤ 190000) (hk : k < 33) :
    Inv2 N z w A B (k + 1) ((wr.setCell ⟨B + 1, k, none⟩ (.int .i64 (f k - f k / 256 * 256))).setCell ⟨B + 1, k + 1, none⟩ (.int .i64 (f (k + 1) + f k / 256))) := by
  refine ⟨(hs.other (by simp; omega) _).other (by simp; omega) _, (hbel.setCell (by simp; omega) _).setCell (by simp; omega) _, hAB, _, (hf.setCell _ _).setCell _ _, (carry_step f k (f k / 256) hk).trans hV, fun j hj => ?_, fun j hj => ?_, ?_⟩
  · rw [upd_other _ _ (by omega)]
    by_cases e : j = k
    · subst e; rw [upd_same]; omega
    · rw [upd_other _ _ e]; exact hdone j (by omega)
  · rw [upd_other _ _ (by omega), upd_other _ _ (by omega)]; exact hfb j (by omega)
  · rw [upd_same]
    have := hfb (k + 1) (by omega)
    omega

/-- The scalar's bytes, the low one first, with two zeros above. -/
def pad (z : Nat → Int) (j : Nat) : Int := if j < 32 then z (31 - j) else 0
theorem V_pad : ∀ (n m : Nat) (f : Nat → Int), (∀ k, n ≤ k → f k = 0) → V (n + m) f = V n f
  | 0, m, f, h => by rw [Nat.zero_add, V_congr m f (fun _ => 0) (fun k _ => h k (by omega)), V_zero]; rfl
  | n + 1, m, f, h => by rw [show n + 1 + m = (n + m) + 1 by omega, V, V, V_pad n m (fun k => f (k + 1)) (fun k hk => h (k + 1) (by omega))]
theorem inv2_end {N : Int} {z : Nat → Int} {w wr : World} {A B : Nat} (h : Inv2 N z w A B 33 wr) (hN : N = V 32 (fun k => z (31 - k))) (hz : ∀ i, i < 32 → 0 ≤ z i ∧ z i ≤ 255) :
    RowIn .u8 wr A 5 32 z ∧ Below A w wr ∧ RowIn .i64 wr (B + 1) 27 34 (pad z) := by
  obtain ⟨hs, hbel, _, f, hf, hV, hdone, _, _⟩ := h
  refine ⟨hs, hbel, hf.congr ?_⟩
  intro j hj
  have e : V (33 + 1) f = V (33 + 1) (pad z) := by
    rw [show V (33 + 1) f = N from hV, hN, show (33 + 1 : Nat) = 32 + 2 from rfl, V_pad 32 2 (pad z) (fun k hk => by unfold pad; rw [if_neg (by omega)])]
    exact V_congr 32 _ _ (fun k hk => by unfold pad; rw [if_pos hk])
  refine V_unique 33 f (pad z) hdone (fun k hk => ?_) e j (by omega)
  unfold pad
  split
  · exact hz _ (by omega)
  · omega

theorem walk_other (a0 : Option Addr) (len0 cap0 : Nat) (w : World) (hm : len0 ≤ maxLen) (hl : ((len0 : Int) != 32) = true) :
    Calls Trym.prog 3 #[.slice a0 len0 cap0] w fun e w' => e = .returned (.bool true) ∧ Below w.heap.size w w' := by
  unfold maxLen at hm
  go_enter Trym.func3, Trym.ntmps3
  go_wp2
  all_goals (go_ret; exact ⟨rfl, Below.refl _ _⟩)

set_option maxRecDepth 100000 in
set_option maxHeartbeats 800000 in
theorem walk_32 (b off cap : Nat) (z : Nat → Int) (w : World) (hc : ∀ i, i < 32 → w.cell? ⟨b, off + i, none⟩ = some (.int .u8 (z i))) (hz : ∀ i, i < 32 → 0 ≤ z i ∧ z i ≤ 255) (N : Int) (hN : Hid (N = V 32 (fun k => z (31 - k)))) :
    Calls Trym.prog 3 #[.slice (some ⟨b, off, none⟩) 32 cap] w fun e w' => e = .returned (.bool true) ∧ Below w.heap.size w w' := by
  have HC : Hid (∀ i, i < 32 → w.cell? ⟨b, off + i, none⟩ = some (.int .u8 (z i))) := hc
  have HZ : Hid (∀ i, i < 32 → 0 ≤ z i ∧ z i ≤ 255) := hz
  clear hc hz
  go_enter Trym.func3, Trym.ntmps3
  go_wp2_with (go_at_call 8; go_in)
  refine (copy_any b off cap z _ HC.out).mono ?_
  rintro e w1 ⟨rfl, hrow, hsz1, hbel1⟩
  go_wp2_with fail
  refine (zzdigits_any w.heap.size z _ (fun i hi => hrow.cell hi) HZ.out N hN).mono ?_
  rintro e w2 ⟨rfl, hbel2⟩
  have hrow2 : RowIn .u8 w2 w.heap.size 5 32 z := hrow.below hbel2 hrow.lt
  have hbelA : Below w.heap.size w w2 := hbel1.trans (hbel2.mono (by omega))
  clear hrow hbel1 hbel2 hsz1
  go_wp2_with (refine wpList_store_row rfl 25 _ _ rfl w2.heap.size _ rfl rfl 25 _ (heap_alloc_new w2 _) size25 (by rw [row_size]; rfl) (row_oneCell _ _ _) ?_)
  go_loopw [5] (fun i wr => ∃ k : Nat, k ≤ 43 ∧ i = .int .i64 k ∧ Inv1 N z w w.heap.size w2.heap.size k wr) (fun i _ => 43 - (intOf i).toNat)
  case atStart =>
    rw [zero34, zero43]
    refine ⟨0, by omega, rfl, ?_, ?_, ?_, hrow2.lt, fun _ => 0, ?_, ?_, fun _ => by simp⟩
    · exact ((hrow2.alloc _).setRow_other _ (by have := hrow2.lt; omega)).alloc _
    · exact ((RowIn.new _ _ _ _ _).setRow _).alloc _
    · exact (Below_setRow (hbelA.alloc (by have := hrow2.lt; omega) _) (by have := hrow2.lt; omega) _).alloc (by have := hrow2.lt; simp; omega) _
    · have := RowIn.new .i64 ((w2.alloc (.cells (row .i64 43 (fun _ => 0)) 25)).setRow w2.heap.size (row .i64 43 (dig N))) 27 34 (fun _ => 0)
      simpa using this
    · rw [V_zero, left_zero]; simp [p2]
  case round =>
    obtain ⟨k, hk, rfl, hinv⟩ := hrel
    clear hrow2 hbelA
    generalize w2.heap.size = B at *
    by_cases hlt : k < 43
    · obtain ⟨hs, hd, hbel, hAB, f, hf, hV, hfb⟩ := hinv
      have HS : Hid (Inv1 N z w w.heap.size B (k + 1) (wr.setCell ⟨B + 1, 6 * k / 8, none⟩ (.int .i64 (wrap64 (f (6 * k / 8) + wrap64 (dig N k * 2 ^ (6 * k % 8)))))).drew) := inv1_step hs hd hbel hAB hf hV hfb hlt
      have hdb := dig_bounds N k
      have gd := hd.cell hlt
      have ga := hf.cell (j := 6 * k / 8) (by omega)
      have gf := hf.free (6 * k / 8)
      have gb := hfb (6 * k / 8)
      clear hV hfb
      generalize dig N k = d at gd hdb HS
      generalize f (6 * k / 8) = a at ga gb HS
      go_wp2
      go_region
      go_wp2
      go_roundw
      case rel => exact ⟨k + 1, by omega, by go_num, HS.out⟩
      case measure => simp [intOf]; omega
    · obtain rfl : k = 43 := by omega
      have hinv2 := inv2_start hinv (left_43 z N hN.out HZ.out)
      clear hinv
      go_wp2
      go_loopw [7] (fun i wr => ∃ k : Nat, k ≤ 33 ∧ i = .int .i64 k ∧ Inv2 N z w w.heap.size B k wr) (fun i _ => 33 - (intOf i).toNat)
      case atStart => exact ⟨0, by omega, rfl, hinv2⟩
      case round =>
        clear hinv2
        obtain ⟨k, hk, rfl, hinv⟩ := hrel
        by_cases hlt : k < 33
        · obtain ⟨hs, hbel, hAB, f, hf, hV, hdone, hfb, hfk⟩ := hinv
          have HS : Hid (Inv2 N z w w.heap.size B (k + 1) ((wr.setCell ⟨B + 1, k, none⟩ (.int .i64 (f k - f k / 256 * 256))).setCell ⟨B + 1, k + 1, none⟩ (.int .i64 (f (k + 1) + f k / 256)))) := inv2_step hs hbel hAB hf hV hdone hfb hfk hlt
          have ga := hf.cell (j := k) (by omega)
          have gf := hf.free k
          have gc := hf.cell (j := k + 1) (by omega)
          have ge := hf.free (k + 1)
          have gb := hfb (k + 1) (by omega)
          clear hV hfb hdone
          generalize f k = a at ga hfk HS
          generalize f (k + 1) = a1 at gc gb HS
          go_wp2
          go_roundw
          case rel => exact ⟨k + 1, by omega, by go_num, HS.out⟩
          case measure => simp [intOf]; omega
        · obtain rfl : k = 33 := by omega
          have hend := inv2_end hinv hN.out HZ.out
          clear hinv
          go_wp2
          go_loopw [9] (fun i wr => ∃ k : Nat, k ≤ 32 ∧ i = .int .i64 k ∧ RowIn .u8 wr w.heap.size 5 32 z ∧ Below w.heap.size w wr ∧ RowIn .i64 wr (B + 1) 27 34 (pad z)) (fun i _ => 32 - (intOf i).toNat)
          case atStart => exact ⟨0, by omega, rfl, hend⟩
          case round =>
            clear hend
            obtain ⟨k, hk, rfl, hs, hbel, hf⟩ := hrel
            by_cases hlt : k < 32
            · have ga := hf.cell (j := k) (by omega)
              have gs := hs.cell (j := 31 - k) (by omega)
              have hzk := HZ.out (31 - k) (by omega)
              rw [show pad z k = z (31 - k) by unfold pad; rw [if_pos hlt]] at ga
              generalize z (31 - k) = y at ga gs hzk
              go_wp2
              go_region
              go_wp2
              go_roundw
              case rel => exact ⟨k + 1, by omega, by go_num, hs.drew, hbel.drew, hf.drew⟩
              case measure => simp [intOf]; omega
            · obtain rfl : k = 32 := by omega
              have ga := hf.cell (j := 32) (by omega)
              have gb := hf.cell (j := 33) (by omega)
              rw [show pad z 32 = 0 by unfold pad; rw [if_neg (by omega)]] at ga
              rw [show pad z 33 = 0 by unfold pad; rw [if_neg (by omega)]] at gb
              go_wp2
              go_ret
              exact ⟨rfl, hbel⟩

end Go.Proofs.Qxb6000103aMods.fnP256DigitsEvaluateBackToScalar
