/-
  THE WALK of the law 'FnFirstBytesKeptOnlyGrows'.
-/
import Derived.Test.Qxb6001331aModsPre
namespace Go.Proofs.Qxb6001331aMods.fnFirstBytesKeptOnlyGrows
open Go.RowKit

set_option maxRecDepth 100000 in
set_option maxHeartbeats 800000 in
theorem walk_other (pa pb : Option Addr) (la lb ca cb : Nat) (w : World) (ha : la ≤ maxLen) (hb : lb ≤ maxLen) (h : 524288 < la ∨ 524288 < lb) :
    Calls Trym.prog 5 #[.slice pa la ca, .slice pb lb cb] w fun e w' => e = .returned (.bool true) ∧ Below w.heap.size w w' := by
  unfold maxLen at ha hb
  rcases h with h | h
  all_goals
    go_enter Trym.func5, Trym.ntmps5
    go_wp2_with (go_at_call 15; go_in)
    all_goals (go_ret; exact ⟨rfl, Below.refl _ _⟩)

theorem cat_a {za zb zc : Nat → Int} {la lb : Nat} {w : World} {p : Option Addr} (h : Src w p la za) : Src w p la (fun j => cat3 za zb zc la lb (0 + j)) :=
  h.congr (fun j hj => by unfold cat3; rw [Nat.zero_add, if_pos hj])
theorem cat_b {za zb zc : Nat → Int} {la lb : Nat} {w : World} {p : Option Addr} (h : Src w p lb zb) : Src w p lb (fun j => cat3 za zb zc la lb (la + j)) :=
  h.congr (fun j hj => by unfold cat3; rw [if_neg (by omega), if_pos (by omega), show la + j - la = j by omega])

set_option maxRecDepth 100000 in
set_option maxHeartbeats 3200000 in
theorem walk_main (pa pb : Option Addr) (la lb ca cb : Nat) (za zb : Nat → Int) (w : World)
    (na : pa = none → la = 0 ∧ ca = 0) (nb : pb = none → lb = 0 ∧ cb = 0) (sa : Src w pa la za) (sb : Src w pb lb zb)
    (ha : la ≤ 524288) (hb : lb ≤ 524288) :
    Calls Trym.prog 5 #[.slice pa la ca, .slice pb lb cb] w fun e w' => e = .returned (.bool true) ∧ Below w.heap.size w w' := by
  have Na : Hid (pa = none → la = 0 ∧ ca = 0) := na
  have Nb : Hid (pb = none → lb = 0 ∧ cb = 0) := nb
  have Sa : Hid (Src w pa la za) := sa
  have Sb : Hid (Src w pb lb zb) := sb
  have hd1 : decide ((524288 : Int) < (la : Int)) = false := by simp; omega
  have hd2 : decide ((524288 : Int) < (lb : Int)) = false := by simp; omega
  clear na nb sa sb
  obtain ⟨L, hL⟩ : ∃ L, Hid (L = min la 1024) := ⟨_, rfl⟩
  have hL1 : L ≤ 1024 := by rw [hL.out]; omega
  have hL2 : L ≤ la := by rw [hL.out]; omega
  have hd3 : decide ((1024 : Int) < (L : Int)) = false := by simp; omega
  obtain ⟨z, hz⟩ : ∃ z, Hid (z = cat3 za zb (fun _ => 0) la lb) := ⟨_, rfl⟩
  go_enter Trym.func5, Trym.ntmps5
  go_wp2_with (go_at_call 15; go_in)
  refine (clone_any pa la ca za _ (by omega) Na.out Sa.out).mono ?_
  rintro e w1 ⟨qa, rfl, oa, b1⟩
  have OA : Hid (Own w1.heap.size w1 qa la za) := oa
  have B1 : Hid (Below w.heap.size w w1) := b1
  clear oa b1
  go_wp2_with fail
  refine (clone_any pb lb cb zb _ (by omega) Nb.out (Sb.out.below B1.out (Nat.le_refl _))).mono ?_
  rintro e w2 ⟨qb, rfl, ob, b2⟩
  have OB : Hid (Own w2.heap.size w2 qb lb zb) := ob
  have OA2 : Hid (Own w2.heap.size w2 qa la za) := OA.out.keep b2.size b2.block
  have B2 : Hid (Below w.heap.size w w2) := B1.out.trans (b2.mono B1.out.size)
  clear ob b2 OA B1 Na Nb Sa Sb
  go_wp2_with fail
  refine (new_pre w2).mono ?_
  rintro e w4 ⟨rfl, hk4, b4, s4⟩
  have OB4 : Hid (Own w2.heap.size w4 qb lb zb) := OB.out.keep (Nat.le_refl _) b4.block
  have OA4 : Hid (Own w2.heap.size w4 qa la za) := OA2.out.keep (Nat.le_refl _) b4.block
  have B4 : Hid (Below w.heap.size w w4) := B2.out.trans (b4.mono B2.out.size)
  have K4 : Hid (Kept w4 w2.heap.size z 0) := hk4 _
  have hG : w.heap.size ≤ w2.heap.size := B2.out.size
  clear hk4 b4 s4 OB OA2 B2
  generalize w2.heap.size = G at *
  go_wp2_with fail
  refine (write_pre G z 0 qa la la w4 K4.out (by rw [hz.out]; exact cat_a OA4.out.src)).mono ?_
  rintro e w5 ⟨rfl, k5, o5⟩
  have OB5 : Hid (Own G w5 qb lb zb) := OB4.out.keep (Nat.le_refl _) (fun k hk => o5.block k (by omega))
  have B5 : Hid (Below w.heap.size w w5) := B4.out.trans (o5.below hG)
  have K5 : Hid (Kept w5 G z la) := by unfold Hid; rw [Nat.zero_add] at k5; exact k5
  clear k5 o5 OB4 OA4 B4 K4
  go_wp2_with fail
  refine (kept_len G _ _ L w5 K5.out hL.out).mono ?_
  rintro e w6 ⟨rfl, t6, rfl⟩
  have hmk := make_bytes L (by omega) (w5.drewN t6)
  go_wp2_with fail
  have hGS : G < w5.heap.size := K5.out.lt
  have hst : RowIn .u8 ((w5.drewN t6).alloc (Obj.cells (row .u8 L fun _ => 0) 5)) w5.heap.size 5 L (fun j => if j < 0 then z j else 0) ∧ Kept ((w5.drewN t6).alloc (Obj.cells (row .u8 L fun _ => 0) 5)) G z la ∧
      Own G ((w5.drewN t6).alloc (Obj.cells (row .u8 L fun _ => 0) 5)) qb lb zb ∧ Below w.heap.size w ((w5.drewN t6).alloc (Obj.cells (row .u8 L fun _ => 0) 5)) :=
    ⟨(RowIn.new .u8 (w5.drewN t6) 5 L (fun _ => 0)).congr (fun j _ => by rw [if_neg (by omega)]), K5.out.keep (heap_alloc_old (w5.drewN t6) _ (h := hGS)),
      OB5.out.keep (Nat.le_refl _) (fun k hk => heap_alloc_old (w5.drewN t6) _ (h := show k < w5.heap.size by omega)), (below_drewN B5.out t6).alloc (show w.heap.size ≤ w5.heap.size by omega) _⟩
  clear hmk K5 OB5 B5
  generalize w5.heap.size = S at *
  go_loopw [10] (fun v wr => ∃ k : Nat, k ≤ L ∧ v = .int .i64 k ∧ RowIn .u8 wr S 5 L (fun j => if j < k then z j else 0) ∧ Kept wr G z la ∧ Own G wr qb lb zb ∧ Below w.heap.size w wr) (fun v _ => L - (intOf v).toNat)
  case atStart => exact ⟨0, by omega, rfl, hst⟩
  case round =>
    clear hst
    obtain ⟨k, hk, rfl, hrow, hkG, hob, hbel⟩ := hrel
    by_cases hlt : k < L
    · have g1 : wr.cell? ⟨G, k, none⟩ = some (.int .u8 (z k)) := by rw [FB.cell hkG (by omega)]; unfold pre; rw [if_pos (by omega)]
      have g2 := hrow.cell hlt
      have g3 := hrow.free k
      have HS : Hid (RowIn .u8 (wr.setCell ⟨S, k, none⟩ (.int .u8 (z k))) S 5 L (fun j => if j < k + 1 then z j else 0) ∧ Kept (wr.setCell ⟨S, k, none⟩ (.int .u8 (z k))) G z la ∧ Own G (wr.setCell ⟨S, k, none⟩ (.int .u8 (z k))) qb lb zb ∧ Below w.heap.size w (wr.setCell ⟨S, k, none⟩ (.int .u8 (z k)))) :=
        ⟨hrow.snoc rfl, hkG.keep (heap_setCell_other _ _ _ _ (show G ≠ S by omega)), hob.keep (Nat.le_refl _) (fun j hj => heap_setCell_other _ _ _ _ (show j ≠ S by omega)), hbel.setCell (show w.heap.size ≤ S by omega) _⟩
      clear hrow hkG hob hbel
      generalize z k = y at g1 HS
      go_wp2
      go_roundw
      case rel => exact ⟨k + 1, by omega, by go_num, HS.out⟩
      case measure => simp [intOf]; omega
    · have hkL : L = k := by omega
      subst hkL
      have R6 : Hid (RowIn .u8 wr S 5 L z) := hrow.congr (fun j hj => by rw [if_pos hj])
      have K6 : Hid (Kept wr G z la) := hkG
      have OB6 : Hid (Own G wr qb lb zb) := hob
      have B6 : Hid (Below w.heap.size w wr) := hbel
      clear hrow hkG hob hbel hlt hk
      by_cases hM : lb < 1024 - L
      · have hbne : (((L + lb : Nat) : Int) != (L : Int) + (lb : Int)) = false := by simp
        have hne : ((L : Int) == 1024) = false := by rw [beq_eq_false_iff_ne]; omega
        have C7 : Hid (∀ w7, Kept w7 G z (la + lb) → ∀ j, j < L → w7.cell? ⟨G, j, none⟩ = some (.int .u8 (z j))) := fun w7 h7 j hj => by
          rw [FB.cell h7 (by omega)]; unfold pre; rw [if_pos (by omega)]
        go_wp2_with fail
        refine (write_pre G z la qb lb lb wr K6.out (by rw [hz.out]; exact cat_b OB6.out.src)).mono ?_
        rintro e w7 ⟨rfl, k7, o7⟩
        have B7 : Hid (Below w.heap.size w w7) := B6.out.trans (o7.below hG)
        have K7 : Hid (Kept w7 G z (la + lb)) := k7
        have R7 : Hid (RowIn .u8 w7 S 5 L z) := by unfold Hid RowIn; rw [o7.block S (by omega)]; exact R6.out
        clear k7 o7 OB6 B6 K6 R6
        go_wp2_with fail
        refine (kept_len G _ _ (L + lb) w7 K7.out (by have := hL.out; omega)).mono ?_
        rintro e w8 ⟨rfl, t8, rfl⟩
        go_wp2_with fail
        refine (min_lt _ _ _ (by omega)).mono ?_
        rintro e w9 ⟨rfl, rfl⟩
        go_wp2_with fail
        go_loopw [12] (fun v wr => ∃ k : Nat, k ≤ L ∧ v = .int .i64 k ∧ ∃ t, wr = w7.drewN t) (fun v _ => L - (intOf v).toNat)
        case atStart => exact ⟨0, by omega, rfl, t8, rfl⟩
        case round =>
          obtain ⟨k, hk, rfl, t, rfl⟩ := hrel
          by_cases hlt : k < L
          · have g1 := C7.out w7 K7.out k hlt
            have g2 := R7.out.cell hlt
            generalize z k = y at g1 g2
            go_wp2
            go_quiet (fail)
            go_wp2
            go_roundw
            case rel => exact ⟨k + 1, by omega, by go_num, _, rfl⟩
            case measure => simp [intOf]; omega
          · have hkL : L = k := by omega
            subst hkL
            go_wp2
            go_ret
            exact ⟨rfl, below_drewN B7.out _⟩
      · by_cases hE : L = 1024
        · subst hE
          have C7 : Hid (∀ w7, Kept w7 G z (la + lb) → ∀ j, j < 1024 → w7.cell? ⟨G, j, none⟩ = some (.int .u8 (z j))) := fun w7 h7 j hj => by
            rw [FB.cell h7 (by omega)]; unfold pre; rw [if_pos (by omega)]
          go_wp2_with fail
          refine (write_pre G z la qb lb lb wr K6.out (by rw [hz.out]; exact cat_b OB6.out.src)).mono ?_
          rintro e w7 ⟨rfl, k7, o7⟩
          have B7 : Hid (Below w.heap.size w w7) := B6.out.trans (o7.below hG)
          have K7 : Hid (Kept w7 G z (la + lb)) := k7
          have R7 : Hid (RowIn .u8 w7 S 5 1024 z) := by unfold Hid RowIn; rw [o7.block S (by omega)]; exact R6.out
          clear k7 o7 OB6 B6 K6 R6
          go_wp2_with fail
          refine (kept_len G _ _ 1024 w7 K7.out (by have := hL.out; omega)).mono ?_
          rintro e w8 ⟨rfl, t8, rfl⟩
          go_wp2_with fail
          refine (min_ge _ _ _ (by omega)).mono ?_
          rintro e w9 ⟨rfl, rfl⟩
          go_wp2_with fail
          go_loopw [12] (fun v wr => ∃ k : Nat, k ≤ 1024 ∧ v = .int .i64 k ∧ ∃ t, wr = w7.drewN t) (fun v _ => 1024 - (intOf v).toNat)
          case atStart => exact ⟨0, by omega, rfl, t8, rfl⟩
          case round =>
            obtain ⟨k, hk, rfl, t, rfl⟩ := hrel
            by_cases hlt : k < 1024
            · have g1 := C7.out w7 K7.out k hlt
              have g2 := R7.out.cell hlt
              generalize z k = y at g1 g2
              go_wp2
              go_quiet (fail)
              go_wp2
              go_roundw
              case rel => exact ⟨k + 1, by omega, by go_num, _, rfl⟩
              case measure => simp [intOf]; omega
            · have hkL : 1024 = k := by omega
              subst hkL
              go_wp2_with fail
              refine (same_any _ _ 1024 _ _ z _ (by omega) (fun _ => ⟨S, 0, rfl, fun j hj => by rw [Nat.zero_add]; exact R7.out.cell hj⟩) (fun _ => ⟨G, 0, rfl, fun j hj => by rw [Nat.zero_add]; exact C7.out w7 K7.out j hj⟩)).mono ?_
              rintro e w10 ⟨rfl, t10, rfl⟩
              go_wp2
              go_ret
              exact ⟨rfl, below_drewN B7.out _⟩
        · have hbne : ((1024 : Int) != (L : Int) + (1024 - (L : Int))) = false := by rw [bne_eq_false_iff_eq]; omega
          have hne : ((L : Int) == 1024) = false := by rw [beq_eq_false_iff_ne]; omega
          have C7 : Hid (∀ w7, Kept w7 G z (la + lb) → ∀ j, j < L → w7.cell? ⟨G, j, none⟩ = some (.int .u8 (z j))) := fun w7 h7 j hj => by
            rw [FB.cell h7 (by omega)]; unfold pre; rw [if_pos (by omega)]
          go_wp2_with fail
          refine (write_pre G z la qb lb lb wr K6.out (by rw [hz.out]; exact cat_b OB6.out.src)).mono ?_
          rintro e w7 ⟨rfl, k7, o7⟩
          have B7 : Hid (Below w.heap.size w w7) := B6.out.trans (o7.below hG)
          have K7 : Hid (Kept w7 G z (la + lb)) := k7
          have R7 : Hid (RowIn .u8 w7 S 5 L z) := by unfold Hid RowIn; rw [o7.block S (by omega)]; exact R6.out
          clear k7 o7 OB6 B6 K6 R6
          go_wp2_with fail
          refine (kept_len G _ _ 1024 w7 K7.out (by have := hL.out; omega)).mono ?_
          rintro e w8 ⟨rfl, t8, rfl⟩
          go_wp2_with fail
          refine (min_ge _ _ _ (by omega)).mono ?_
          rintro e w9 ⟨rfl, rfl⟩
          go_wp2_with fail
          go_loopw [12] (fun v wr => ∃ k : Nat, k ≤ L ∧ v = .int .i64 k ∧ ∃ t, wr = w7.drewN t) (fun v _ => L - (intOf v).toNat)
          case atStart => exact ⟨0, by omega, rfl, t8, rfl⟩
          case round =>
            obtain ⟨k, hk, rfl, t, rfl⟩ := hrel
            by_cases hlt : k < L
            · have g1 := C7.out w7 K7.out k hlt
              have g2 := R7.out.cell hlt
              generalize z k = y at g1 g2
              go_wp2
              go_quiet (fail)
              go_wp2
              go_roundw
              case rel => exact ⟨k + 1, by omega, by go_num, _, rfl⟩
              case measure => simp [intOf]; omega
            · have hkL : L = k := by omega
              subst hkL
              go_wp2
              go_ret
              exact ⟨rfl, below_drewN B7.out _⟩
end Go.Proofs.Qxb6001331aMods.fnFirstBytesKeptOnlyGrows
