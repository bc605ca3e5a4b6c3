/-
  THE WALK of the law 'FnSkipSpaceStopsAtFirstNonSpace'.
-/
import Derived.Test.Qxb6604173aModsSkip
namespace Go.Proofs.Qxb6604173aMods.fnSkipSpaceStopsAtFirstNonSpace
open Go.RowKit

set_option maxRecDepth 100000 in
theorem walk_other (q : Option Addr) (n cap : Nat) (p : Int) (w : World) (hm : n ≤ maxLen) (h : 1048576 < n ∨ p < 0) :
    Calls Trym.prog 3 #[.slice q n cap, .int .i64 p] w fun e w' => e = .returned (.bool true) ∧ Below w.heap.size w w' := by
  unfold maxLen at hm
  by_cases hn : 1048576 < n
  · go_enter Trym.func3, Trym.ntmps3
    go_wp2
    go_ret
    exact ⟨rfl, Below.refl _ _⟩
  · have hp : p < 0 := by omega
    go_enter Trym.func3, Trym.ntmps3
    go_wp2
    go_ret
    exact ⟨rfl, Below.refl _ _⟩

set_option maxRecDepth 100000 in
set_option maxHeartbeats 1600000 in
theorem walk_main (s : Option Addr) (n cap : Nat) (z : Nat → Int) (p : Nat) (w : World) (hnil : s = none → n = 0 ∧ cap = 0) (hs : Src w s n z) (hn : n ≤ 1048576) :
    Calls Trym.prog 3 #[.slice s n cap, .int .i64 p] w fun e w' => e = .returned (.bool true) ∧ Below w.heap.size w w' := by
  have HNil : Hid (s = none → n = 0 ∧ cap = 0) := hnil
  have HSr : Hid (Src w s n z) := hs
  have hd1 : decide ((1048576 : Int) < (n : Int)) = false := by simp; omega
  have hd2 : decide ((p : Int) < 0) = false := by simp
  clear hnil hs
  go_enter Trym.func3, Trym.ntmps3
  go_wp2_with (go_at_call 4; go_in)
  refine (clone_any s n cap z _ hn HNil.out HSr.out).mono ?_
  rintro e w1 ⟨q, rfl, hown, hbel1⟩
  have HO : Hid (Own w1.heap.size w1 q n z) := hown
  have HB : Hid (Below w.heap.size w w1) := hbel1
  clear hown hbel1 HNil HSr
  by_cases hp : n ≤ p
  · go_wp2_with fail
    refine (zzskip_end q n n p w1 hp).mono ?_
    rintro e w2 ⟨rfl, b2⟩
    have HB2 : Hid (Below w.heap.size w w2) := HB.out.trans (b2.mono HB.out.size)
    clear b2
    go_wp2
    go_ret
    exact ⟨rfl, HB2.out⟩
  · obtain ⟨g, hg, rfl, hrow⟩ := HO.out (by omega)
    have HR : Hid (RowIn .u8 w1 g 5 n z) := hrow
    clear hrow HO
    have hd3 : decide (n ≤ p) = false := by simp; omega
    go_wp2_with fail
    refine (zzskip_in g n n p z w1 (by omega) hn HR.out).mono ?_
    rintro e w2 ⟨r, rfl, h1, h2, h3, h4, b2⟩
    have HB2 : Hid (Below w.heap.size w w2) := HB.out.trans (b2.mono HB.out.size)
    have HR2 : Hid (RowIn .u8 w2 g 5 n z) := HR.out.below b2 HR.out.lt
    have H3 : Hid (∀ j, p ≤ j → j < r → sp (z j) = true) := h3
    have H4 : Hid (r < n → sp (z r) = false) := h4
    clear b2 h3 h4 HB HR
    have hd4 : decide (r < p) = false := by simp; omega
    have hd5 : decide (n < r) = false := by simp; omega
    go_wp2_with fail
    go_loopw [6] (fun v wr => ∃ k : Nat, p ≤ k ∧ k ≤ r ∧ v = .int .i64 k ∧ RowIn .u8 wr g 5 n z ∧ Below w.heap.size w wr) (fun v _ => r - (intOf v).toNat)
    case atStart => exact ⟨p, by omega, by omega, rfl, HR2.out, HB2.out⟩
    case round =>
      clear HR2 HB2
      obtain ⟨k, hk1, hk2, rfl, hr2, hb2⟩ := hrel
      have HR2 : Hid (RowIn .u8 wr g 5 n z) := hr2
      have HB2 : Hid (Below w.heap.size w wr) := hb2
      clear hr2 hb2
      by_cases hlt : k < r
      · have g1 := HR2.out.cell (j := k) (by omega)
        have HS : Hid (Calls Trym.prog 7 #[.int .u8 (z k)] wr fun e w' => e = .returned (.bool true) ∧ wr = w') := by
          have := space_any (z k) wr
          rw [H3.out k hk1 hlt] at this
          exact this.mono fun _ _ h => ⟨h.1, h.2.symm⟩
        generalize z k = y at g1 HS
        go_wp2_with fail
        refine HS.out.mono ?_
        rintro e w3 ⟨rfl, rfl⟩
        go_wp2
        go_roundw
        case rel => exact ⟨k + 1, by omega, by omega, by go_num, HR2.out, HB2.out⟩
        case measure => simp [intOf]; omega
      · obtain rfl : k = r := by omega
        by_cases hrn : k = n
        · have hb : ((k : Int) == (n : Int)) = true := by rw [beq_iff_eq]; omega
          go_wp2
          go_ret
          exact ⟨rfl, HB2.out⟩
        · have hb : ((k : Int) == (n : Int)) = false := by rw [beq_eq_false_iff_ne]; omega
          have hlt2 : k < n := by omega
          have g1 := HR2.out.cell (j := k) hlt2
          have HS : Hid (Calls Trym.prog 7 #[.int .u8 (z k)] wr fun e w' => e = .returned (.bool false) ∧ wr = w') := by
            have := space_any (z k) wr
            rw [H4.out hlt2] at this
            exact this.mono fun _ _ h => ⟨h.1, h.2.symm⟩
          clear H3 H4
          generalize z k = y at g1 HS
          go_wp2_with fail
          refine HS.out.mono ?_
          rintro e w3 ⟨rfl, rfl⟩
          go_wp2
          go_ret
          exact ⟨rfl, HB2.out⟩
end Go.Proofs.Qxb6604173aMods.fnSkipSpaceStopsAtFirstNonSpace
