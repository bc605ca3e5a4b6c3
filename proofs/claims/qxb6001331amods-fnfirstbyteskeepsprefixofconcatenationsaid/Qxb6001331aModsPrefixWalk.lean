/-
  THE WALK of the law 'FnFirstBytesKeepsPrefixOfConcatenation'.
-/
import Derived.Test.Qxb6001331aModsPre
namespace Go.Proofs.Qxb6001331aMods.fnFirstBytesKeepsPrefixOfConcatenation
open Go.RowKit

set_option maxRecDepth 100000 in
set_option maxHeartbeats 800000 in
theorem walk_other (pa pb pc : Option Addr) (la lb lc ca cb cc : Nat) (w : World) (ha : la ≤ maxLen) (hb : lb ≤ maxLen) (hc : lc ≤ maxLen) (h : 262144 < la ∨ 262144 < lb ∨ 262144 < lc) :
    Calls Trym.prog 3 #[.slice pa la ca, .slice pb lb cb, .slice pc lc cc] w fun e w' => e = .returned (.bool true) ∧ Below w.heap.size w w' := by
  unfold maxLen at ha hb hc
  rcases h with h | h | h
  all_goals
    go_enter Trym.func3, Trym.ntmps3
    go_wp2_with (go_at_call 6; go_in)
    all_goals (go_ret; exact ⟨rfl, Below.refl _ _⟩)

/-- The pieces lie one behind the other in the stream. -/
theorem cat_a {za zb zc : Nat → Int} {la lb : Nat} {w : World} {p : Option Addr} (h : Src w p la za) : Src w p la (fun j => cat3 za zb zc la lb (0 + j)) :=
  h.congr (fun j hj => by unfold cat3; rw [Nat.zero_add, if_pos hj])
theorem cat_b {za zb zc : Nat → Int} {la lb : Nat} {w : World} {p : Option Addr} (h : Src w p lb zb) : Src w p lb (fun j => cat3 za zb zc la lb (0 + la + j)) :=
  h.congr (fun j hj => by unfold cat3; rw [Nat.zero_add, if_neg (by omega), if_pos (by omega), show la + j - la = j by omega])
theorem cat_c {za zb zc : Nat → Int} {la lb lc : Nat} {w : World} {p : Option Addr} (h : Src w p lc zc) : Src w p lc (fun j => cat3 za zb zc la lb (0 + la + lb + j)) :=
  h.congr (fun j hj => by unfold cat3; rw [Nat.zero_add, if_neg (by omega), if_neg (by omega), show la + lb + j - la - lb = j by omega])

set_option maxRecDepth 100000 in
set_option maxHeartbeats 3200000 in
theorem walk_main (pa pb pc : Option Addr) (la lb lc ca cb cc : Nat) (za zb zc : Nat → Int) (w : World)
    (na : pa = none → la = 0 ∧ ca = 0) (nb : pb = none → lb = 0 ∧ cb = 0) (nc : pc = none → lc = 0 ∧ cc = 0) (sa : Src w pa la za) (sb : Src w pb lb zb) (sc : Src w pc lc zc)
    (ha : la ≤ 262144) (hb : lb ≤ 262144) (hc : lc ≤ 262144) :
    Calls Trym.prog 3 #[.slice pa la ca, .slice pb lb cb, .slice pc lc cc] w fun e w' => e = .returned (.bool true) ∧ Below w.heap.size w w' := by
  have Na : Hid (pa = none → la = 0 ∧ ca = 0) := na
  have Nb : Hid (pb = none → lb = 0 ∧ cb = 0) := nb
  have Nc : Hid (pc = none → lc = 0 ∧ cc = 0) := nc
  have Sa : Hid (Src w pa la za) := sa
  have Sb : Hid (Src w pb lb zb) := sb
  have Sc : Hid (Src w pc lc zc) := sc
  have hd1 : decide ((262144 : Int) < (la : Int)) = false := by simp; omega
  have hd2 : decide ((262144 : Int) < (lb : Int)) = false := by simp; omega
  have hd3 : decide ((262144 : Int) < (lc : Int)) = false := by simp; omega
  clear na nb nc sa sb sc
  go_enter Trym.func3, Trym.ntmps3
  go_wp2_with (go_at_call 6; go_in)
  refine (clone_any pa la ca za _ (by omega) Na.out Sa.out).mono ?_
  rintro e w1 ⟨qa, rfl, oa, b1⟩
  have OA : Hid (Own w1.heap.size w1 qa la za) := oa
  have B1 : Hid (Below w.heap.size w w1) := b1
  clear oa b1
  go_wp2_with fail
  refine (clone_any pb lb cb zb _ (by omega) Nb.out (Sb.out.below B1.out (Nat.le_refl _))).mono ?_
  rintro e w2 ⟨qb, rfl, ob, b2⟩
  have OB : Hid (Own w2.heap.size w2 qb lb zb) := ob
  have OA2 : Hid (Own w2.heap.size w2 qa la za) := OA.out.keep b2.size b2.block
  have B2 : Hid (Below w.heap.size w w2) := B1.out.trans (b2.mono B1.out.size)
  clear ob b2 OA B1
  go_wp2_with fail
  refine (clone_any pc lc cc zc _ (by omega) Nc.out (Sc.out.below B2.out (Nat.le_refl _))).mono ?_
  rintro e w3 ⟨qc, rfl, oc, b3⟩
  have OC : Hid (Own w3.heap.size w3 qc lc zc) := oc
  have OB3 : Hid (Own w3.heap.size w3 qb lb zb) := OB.out.keep b3.size b3.block
  have OA3 : Hid (Own w3.heap.size w3 qa la za) := OA2.out.keep b3.size b3.block
  have B3 : Hid (Below w.heap.size w w3) := B2.out.trans (b3.mono B2.out.size)
  clear oc b3 OB OA2 B2 Na Nb Nc Sa Sb Sc
  go_wp2_with fail
  refine (new_pre w3).mono ?_
  rintro e w4 ⟨rfl, hk4, b4, s4⟩
  have OC4 : Hid (Own w3.heap.size w4 qc lc zc) := OC.out.keep (Nat.le_refl _) b4.block
  have OB4 : Hid (Own w3.heap.size w4 qb lb zb) := OB3.out.keep (Nat.le_refl _) b4.block
  have OA4 : Hid (Own w3.heap.size w4 qa la za) := OA3.out.keep (Nat.le_refl _) b4.block
  have B4 : Hid (Below w.heap.size w w4) := B3.out.trans (b4.mono B3.out.size)
  have K4 : Hid (Kept w4 w3.heap.size (cat3 za zb zc la lb) 0) := hk4 _
  have hG : w.heap.size ≤ w3.heap.size := B3.out.size
  clear hk4 b4 s4 OC OB3 OA3 B3
  generalize w3.heap.size = G at *
  go_wp2_with fail
  refine (write_pre G (cat3 za zb zc la lb) 0 qa la la w4 K4.out (cat_a OA4.out.src)).mono ?_
  rintro e w5 ⟨rfl, k5, o5⟩
  have OC5 : Hid (Own G w5 qc lc zc) := OC4.out.keep (Nat.le_refl _) (fun k hk => o5.block k (by omega))
  have OB5 : Hid (Own G w5 qb lb zb) := OB4.out.keep (Nat.le_refl _) (fun k hk => o5.block k (by omega))
  have OA5 : Hid (Own G w5 qa la za) := OA4.out.keep (Nat.le_refl _) (fun k hk => o5.block k (by omega))
  have B5 : Hid (Below w.heap.size w w5) := B4.out.trans (o5.below hG)
  have K5 : Hid (Kept w5 G (cat3 za zb zc la lb) (0 + la)) := k5
  clear k5 o5 OC4 OB4 OA4 B4 K4
  go_wp2_with fail
  refine (write_pre G (cat3 za zb zc la lb) (0 + la) qb lb lb w5 K5.out (cat_b OB5.out.src)).mono ?_
  rintro e w6 ⟨rfl, k6, o6⟩
  have OC6 : Hid (Own G w6 qc lc zc) := OC5.out.keep (Nat.le_refl _) (fun k hk => o6.block k (by omega))
  have OB6 : Hid (Own G w6 qb lb zb) := OB5.out.keep (Nat.le_refl _) (fun k hk => o6.block k (by omega))
  have OA6 : Hid (Own G w6 qa la za) := OA5.out.keep (Nat.le_refl _) (fun k hk => o6.block k (by omega))
  have B6 : Hid (Below w.heap.size w w6) := B5.out.trans (o6.below hG)
  have K6 : Hid (Kept w6 G (cat3 za zb zc la lb) (0 + la + lb)) := k6
  clear k6 o6 OC5 OB5 OA5 B5 K5
  go_wp2_with fail
  refine (write_pre G (cat3 za zb zc la lb) (0 + la + lb) qc lc lc w6 K6.out (cat_c OC6.out.src)).mono ?_
  rintro e w7 ⟨rfl, k7, o7⟩
  have OC7 : Hid (Own G w7 qc lc zc) := OC6.out.keep (Nat.le_refl _) (fun k hk => o7.block k (by omega))
  have OB7 : Hid (Own G w7 qb lb zb) := OB6.out.keep (Nat.le_refl _) (fun k hk => o7.block k (by omega))
  have OA7 : Hid (Own G w7 qa la za) := OA6.out.keep (Nat.le_refl _) (fun k hk => o7.block k (by omega))
  have B7 : Hid (Below w.heap.size w w7) := B6.out.trans (o7.below hG)
  have K7 : Hid (Kept w7 G (cat3 za zb zc la lb) (la + lb + lc)) := by unfold Hid; rw [Nat.zero_add] at k7; exact k7
  clear k7 o7 OC6 OB6 OA6 B6 K6
  by_cases hT : 1024 < la + lb + lc
  · have HIL : Hid (∀ k, k < 1024 → w7.cell? ⟨G, k, none⟩ = some (.int .u8 (cat3 za zb zc la lb k))) := fun k hk => by
      rw [FB.cell K7.out (by omega)]; unfold pre; rw [if_pos (by omega)]
    have hdm : ((1024 : Int) != (1024 : Int)) = false := by decide
    go_wp2_with fail
    refine (kept_len G _ _ 1024 w7 K7.out (by omega)).mono ?_
    rintro e w8 ⟨rfl, t8, rfl⟩
    go_wp2_with fail
    refine (min_lt 1024 _ _ (by omega)).mono ?_
    rintro e w9 ⟨rfl, rfl⟩
    go_wp2_with fail
    go_loopw [12] (fun v wr => ∃ k : Nat, k ≤ 1024 ∧ v = .int .i64 k ∧ ∃ t, wr = w7.drewN t) (fun v _ => 1024 - (intOf v).toNat)
    case atStart => exact ⟨0, by omega, rfl, t8, rfl⟩
    case round =>
      obtain ⟨k, hk, rfl, t, rfl⟩ := hrel
      by_cases hlt : k < 1024
      · have g1 := HIL.out k hlt
        have HA3 : Hid (∀ n, Calls Trym.prog 12 #[.slice qa la la, .slice qb lb lb, .slice qc lc lc, .int .i64 k] (w7.drewN (t + n)) fun e w' => e = .returned (.int .u8 (cat3 za zb zc la lb k)) ∧ ∃ m, w' = w7.drewN (t + m)) :=
          fun n => (at3_any qa qb qc la lb lc la lb lc za zb zc k _ (OA7.out.src.drewN (t + n)) (OB7.out.src.drewN (t + n)) (OC7.out.src.drewN (t + n)) (by omega) (by omega) (by omega) (by omega)).mono fun _ _ ⟨he, hw⟩ => ⟨he, n, hw⟩
        generalize cat3 za zb zc la lb k = y at g1 HA3
        go_wp2
        go_quiet ((go_at_call 12; exact HA3.out _))
        go_wp2
        go_roundw
        case rel => exact ⟨k + 1, by omega, by go_num, _, rfl⟩
        case measure => simp [intOf]; omega
      · obtain rfl : k = 1024 := by omega
        go_wp2
        go_ret
        exact ⟨rfl, below_drewN B7.out _⟩
  · have HIL : Hid (∀ k, k < (la + lb + lc) → w7.cell? ⟨G, k, none⟩ = some (.int .u8 (cat3 za zb zc la lb k))) := fun k hk => by
      rw [FB.cell K7.out (by omega)]; unfold pre; rw [if_pos (by omega)]
    have hdm : (((la + lb + lc : Nat) : Int) != (la : Int) + (lb : Int) + (lc : Int)) = false := by simp
    go_wp2_with fail
    refine (kept_len G _ _ (la + lb + lc) w7 K7.out (by omega)).mono ?_
    rintro e w8 ⟨rfl, t8, rfl⟩
    go_wp2_with fail
    refine (min_ge 1024 _ _ (by omega)).mono ?_
    rintro e w9 ⟨rfl, rfl⟩
    go_wp2_with fail
    go_loopw [12] (fun v wr => ∃ k : Nat, k ≤ (la + lb + lc) ∧ v = .int .i64 k ∧ ∃ t, wr = w7.drewN t) (fun v _ => (la + lb + lc) - (intOf v).toNat)
    case atStart => exact ⟨0, by omega, rfl, t8, rfl⟩
    case round =>
      obtain ⟨k, hk, rfl, t, rfl⟩ := hrel
      by_cases hlt : k < (la + lb + lc)
      · have g1 := HIL.out k hlt
        have HA3 : Hid (∀ n, Calls Trym.prog 12 #[.slice qa la la, .slice qb lb lb, .slice qc lc lc, .int .i64 k] (w7.drewN (t + n)) fun e w' => e = .returned (.int .u8 (cat3 za zb zc la lb k)) ∧ ∃ m, w' = w7.drewN (t + m)) :=
          fun n => (at3_any qa qb qc la lb lc la lb lc za zb zc k _ (OA7.out.src.drewN (t + n)) (OB7.out.src.drewN (t + n)) (OC7.out.src.drewN (t + n)) (by omega) (by omega) (by omega) (by omega)).mono fun _ _ ⟨he, hw⟩ => ⟨he, n, hw⟩
        generalize cat3 za zb zc la lb k = y at g1 HA3
        go_wp2
        go_quiet ((go_at_call 12; exact HA3.out _))
        go_wp2
        go_roundw
        case rel => exact ⟨k + 1, by omega, by go_num, _, rfl⟩
        case measure => simp [intOf]; omega
      · obtain rfl : k = (la + lb + lc) := by omega
        go_wp2
        go_ret
        exact ⟨rfl, below_drewN B7.out _⟩
end Go.Proofs.Qxb6001331aMods.fnFirstBytesKeepsPrefixOfConcatenation
