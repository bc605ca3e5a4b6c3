/-
  THE WALK of the law 'FnFirstBytesChunkingDoesNotMatter'.
-/
import Derived.Test.Qxb6001331aModsPre
namespace Go.Proofs.Qxb6001331aMods.fnFirstBytesChunkingDoesNotMatter
open Go.RowKit

set_option maxRecDepth 100000 in
theorem walk_other (p : Option Addr) (n cap : Nat) (k : Int) (w : World) (hm : n ≤ maxLen) (h : 1048576 < n ∨ k < 1 ∨ 65536 < k) :
    Calls Trym.prog 4 #[.slice p n cap, .int .i64 k] w fun e w' => e = .returned (.bool true) ∧ Below w.heap.size w w' := by
  unfold maxLen at hm
  by_cases hn : 1048576 < n
  · go_enter Trym.func4, Trym.ntmps4
    go_wp2
    go_ret
    exact ⟨rfl, Below.refl _ _⟩
  · by_cases hk : k < 1
    · go_enter Trym.func4, Trym.ntmps4
      go_wp2
      go_ret
      exact ⟨rfl, Below.refl _ _⟩
    · have hk2 : 65536 < k := by omega
      go_enter Trym.func4, Trym.ntmps4
      go_wp2
      go_ret
      exact ⟨rfl, Below.refl _ _⟩

set_option maxRecDepth 100000 in
set_option maxHeartbeats 1600000 in
theorem walk_main (p : Option Addr) (n cap : Nat) (z : Nat → Int) (s : Nat) (w : World) (hnil : p = none → n = 0 ∧ cap = 0) (hs : Src w p n z) (hn : n ≤ 1048576) (hs1 : 1 ≤ s) (hs2 : s ≤ 65536) :
    Calls Trym.prog 4 #[.slice p n cap, .int .i64 s] w fun e w' => e = .returned (.bool true) ∧ Below w.heap.size w w' := by
  have HNil : Hid (p = none → n = 0 ∧ cap = 0) := hnil
  have HSr : Hid (Src w p n z) := hs
  have hd1 : decide ((1048576 : Int) < (n : Int)) = false := by simp; omega
  have hd2 : decide ((s : Int) < 1) = false := by simp; omega
  have hd3 : decide ((65536 : Int) < (s : Int)) = false := by simp; omega
  clear hnil hs
  go_enter Trym.func4, Trym.ntmps4
  go_wp2_with (go_at_call 13; go_in)
  refine (clone_any p n cap z _ hn HNil.out HSr.out).mono ?_
  rintro e w1 ⟨q, rfl, hown, hbel1⟩
  clear HNil HSr
  go_wp2_with fail
  refine (new_pre w1).mono ?_
  rintro e w2 ⟨rfl, hk2, hbel2, hsz2⟩
  have HBS : Hid (Below w.heap.size w w2) := hbel1.trans (hbel2.mono hbel1.size)
  have HO : Hid (Own w1.heap.size w2 q n z) := hown.keep (Nat.le_refl _) hbel2.block
  have hG : w.heap.size ≤ w1.heap.size := hbel1.size
  have HK : Hid (Kept w2 w1.heap.size z 0) := hk2 z
  clear hk2 hbel1 hbel2 hown hsz2
  generalize w1.heap.size = G at *
  go_wp2_with fail
  refine (write_pre G z 0 q n n w2 HK.out (HO.out.src.congr (fun j _ => by rw [Nat.zero_add]))).mono ?_
  rintro e w3 ⟨rfl, hk3, ho3⟩
  have HB3 : Hid (Below w.heap.size w w3) := HBS.out.trans (ho3.below hG)
  have HO3 : Hid (Own G w3 q n z) := HO.out.keep (Nat.le_refl _) (fun k hk => ho3.block k (by omega))
  have HK3 : Hid (Kept w3 G z n) := by unfold Hid; rw [Nat.zero_add] at hk3; exact hk3
  clear HBS HO HK hk3 ho3
  go_wp2_with fail
  refine (new_pre w3).mono ?_
  rintro e w4 ⟨rfl, hk4, hbel4, hsz4⟩
  have HB4 : Hid (Below w.heap.size w w4) := HB3.out.trans (hbel4.mono HB3.out.size)
  have hGH : G < w3.heap.size := HK3.out.lt
  have HO4 : Hid (Own G w4 q n z) := HO3.out.keep (Nat.le_refl _) (fun k hk => hbel4.block k (by omega))
  have HK4 : Hid (Kept w4 G z n) := HK3.out.keep (hbel4.block G hGH)
  have HP4 : Hid (Kept w4 w3.heap.size z 0) := hk4 z
  clear hk4 hbel4 hsz4 HB3 HO3 HK3
  generalize w3.heap.size = H at *
  go_wp2_with fail
  go_loopw [9] (fun v wr => ∃ i : Nat, i ≤ n + 65536 ∧ v = .int .i64 i ∧ Kept wr G z n ∧ Kept wr H z (min i n) ∧ Own G wr q n z ∧ Below w.heap.size w wr) (fun v _ => n - (intOf v).toNat)
  case atStart => exact ⟨0, by omega, rfl, HK4.out, by rw [Nat.zero_min]; exact HP4.out, HO4.out, HB4.out⟩
  case round =>
    clear HB4 HO4 HK4 HP4
    obtain ⟨i, hi, rfl, hkG, hkH, hown, hbel⟩ := hrel
    by_cases hlt : i < n
    · obtain ⟨gd, hgd, rfl, hrow⟩ := hown (by omega)
      have HKG : Hid (Kept wr G z n) := hkG
      have HKH : Hid (Kept wr H z i) := by unfold Hid; rw [Nat.min_eq_left (by omega)] at hkH; exact hkH
      clear hkG hkH hown
      by_cases hend : n < i + s
      · have HS : Hid (Src wr (some ⟨gd, i, none⟩) (n - i) (fun j => z (i + j))) := fun _ => ⟨gd, i, rfl, fun j hj => hrow.cell (by omega)⟩
        go_wp2_with fail
        refine (write_pre H z i _ (n - i) _ wr HKH.out HS.out).mono ?_
        rintro e w5 ⟨rfl, hk5, ho5⟩
        have HN5 : Hid (∀ i', i' = i + s → Kept w5 G z n ∧ Kept w5 H z (min i' n) ∧ Own G w5 (some ⟨gd, 0, none⟩) n z ∧ Below w.heap.size w w5) := fun i' hi' =>
          ⟨HKG.out.keep (ho5.block G (by omega)), by rw [Nat.min_eq_right (by omega)]; rw [show i + (n - i) = n by omega] at hk5; exact hk5,
            fun _ => ⟨gd, hgd, rfl, by unfold RowIn; rw [ho5.block gd (by omega)]; exact hrow⟩, hbel.trans (ho5.below (by omega))⟩
        clear hk5 ho5 HKG HKH HS hrow hbel
        go_wp2
        go_roundw
        case rel => exact ⟨i + s, by omega, by go_num, HN5.out _ rfl⟩
        case measure => simp [intOf]; omega
      · have HS : Hid (Src wr (some ⟨gd, i, none⟩) s (fun j => z (i + j))) := fun _ => ⟨gd, i, rfl, fun j hj => hrow.cell (by omega)⟩
        go_wp2_with fail
        refine (write_pre H z i _ s _ wr HKH.out HS.out).mono ?_
        rintro e w5 ⟨rfl, hk5, ho5⟩
        have HN5 : Hid (∀ i', i' = i + s → Kept w5 G z n ∧ Kept w5 H z (min i' n) ∧ Own G w5 (some ⟨gd, 0, none⟩) n z ∧ Below w.heap.size w w5) := fun i' hi' =>
          ⟨HKG.out.keep (ho5.block G (by omega)), by rw [Nat.min_eq_left (by omega), hi']; exact hk5,
            fun _ => ⟨gd, hgd, rfl, by unfold RowIn; rw [ho5.block gd (by omega)]; exact hrow⟩, hbel.trans (ho5.below (by omega))⟩
        clear hk5 ho5 HKG HKH HS hrow hbel
        go_wp2
        go_roundw
        case rel => exact ⟨i + s, by omega, by go_num, HN5.out _ rfl⟩
        case measure => simp [intOf]; omega
    · have HKH : Hid (Kept wr H z n) := by unfold Hid; rw [Nat.min_eq_right (by omega)] at hkH; exact hkH
      have HKG : Hid (Kept wr G z n) := hkG
      clear hkG hkH hown
      go_wp2_with fail
      refine (kept_pre G z n wr HKG.out).mono ?_
      rintro e w5 ⟨rfl, t5, rfl⟩
      go_wp2_with fail
      refine (kept_pre H z n _ (HKH.out.drewN _)).mono ?_
      rintro e w6 ⟨rfl, t6, rfl⟩
      go_wp2_with fail
      refine (same_any _ _ (min n 1024) _ _ z _ (by omega) (HKG.out.drewN (t5 + t6)).src (HKH.out.drewN (t5 + t6)).src).mono ?_
      rintro e w7 ⟨rfl, t7, rfl⟩
      go_wp2
      go_ret
      exact ⟨rfl, below_drewN hbel _⟩
end Go.Proofs.Qxb6001331aMods.fnFirstBytesChunkingDoesNotMatter
