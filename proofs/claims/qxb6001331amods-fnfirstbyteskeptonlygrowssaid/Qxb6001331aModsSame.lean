/-
  THE WALKS of 'fbSame' (two slices that hold the same bytes) and 'fbAt3'.
-/
import Derived.Test.Qxb6001331aModsWrite
namespace Go.Proofs.Qxb6001331aMods
open Go.RowKit

set_option maxRecDepth 100000 in
set_option maxHeartbeats 400000 in
/-- Two slices of one length with the same bytes are the same. -/
theorem same_any (p q : Option Addr) (n c d : Nat) (z : Nat → Int) (w : World) (hn : n ≤ 1048576) (hp : Src w p n z) (hq : Src w q n z) :
    Calls Trym.prog 14 #[.slice p n c, .slice q n d] w fun e w' => e = .returned (.bool true) ∧ ∃ k, w' = w.drewN k := by
  go_enter Trym.func14, Trym.ntmps14
  go_wp2
  go_loopw [5] (fun i wr => ∃ k : Nat, k ≤ n ∧ i = .int .i64 k ∧ ∃ q, wr = w.drewN q) (fun i _ => n - (intOf i).toNat)
  case atStart => exact ⟨0, by omega, rfl, 0, rfl⟩
  case round =>
    obtain ⟨k, hk, rfl, t, rfl⟩ := hrel
    by_cases hlt : k < n
    · obtain ⟨b, off, rfl, hcp⟩ := hp (by omega)
      obtain ⟨b', off', rfl, hcq⟩ := hq (by omega)
      have g1 := hcp k hlt
      have g2 := hcq k hlt
      clear hcp hcq
      generalize z k = y at g1 g2
      go_wp2
      go_quiet (fail)
      go_wp2
      go_roundw
      case rel => exact ⟨k + 1, by omega, by go_num, t + nq, by simp⟩
      case measure => simp [intOf]; omega
    · obtain rfl : k = n := by omega
      clear hp hq
      go_wp2
      go_ret
      exact ⟨rfl, t, rfl⟩

/-- Byte j of the three slices one behind the other. -/
def cat3 (za zb zc : Nat → Int) (la lb j : Nat) : Int := if j < la then za j else if j - la < lb then zb (j - la) else zc (j - la - lb)

set_option maxRecDepth 100000 in
set_option maxHeartbeats 400000 in
theorem at3_any (pa pb pc : Option Addr) (la lb lc ca cb cc : Nat) (za zb zc : Nat → Int) (i : Nat) (w : World) (ha : Src w pa la za) (hb : Src w pb lb zb) (hc : Src w pc lc zc)
    (ha1 : la ≤ 1048576) (hb1 : lb ≤ 1048576) (hc1 : lc ≤ 1048576) (hi : i < la + lb + lc) :
    Calls Trym.prog 12 #[.slice pa la ca, .slice pb lb cb, .slice pc lc cc, .int .i64 i] w fun e w' => e = .returned (.int .u8 (cat3 za zb zc la lb i)) ∧ w' = w := by
  by_cases h1 : i < la
  · obtain ⟨b, off, rfl, hca⟩ := ha (by omega)
    have g1 := hca i h1
    have HZ : Hid (cat3 za zb zc la lb i = za i) := by unfold Hid cat3; rw [if_pos h1]
    clear hca hb hc ha
    generalize za i = y at g1 HZ
    rw [HZ.out]
    go_enter Trym.func12, Trym.ntmps12
    go_wp2
    go_ret
    exact ⟨rfl, rfl⟩
  · by_cases h2 : i - la < lb
    · obtain ⟨b, off, rfl, hcb⟩ := hb (by omega)
      have g1 := hcb (i - la) h2
      have HZ : Hid (cat3 za zb zc la lb i = zb (i - la)) := by unfold Hid cat3; rw [if_neg h1, if_pos h2]
      clear hcb hb hc ha
      generalize zb (i - la) = y at g1 HZ
      rw [HZ.out]
      go_enter Trym.func12, Trym.ntmps12
      go_wp2
      go_ret
      exact ⟨rfl, rfl⟩
    · obtain ⟨b, off, rfl, hcc⟩ := hc (by omega)
      have g1 := hcc (i - la - lb) (by omega)
      have HZ : Hid (cat3 za zb zc la lb i = zc (i - la - lb)) := by unfold Hid cat3; rw [if_neg h1, if_neg h2]
      clear hcc hb hc ha
      generalize zc (i - la - lb) = y at g1 HZ
      rw [HZ.out]
      go_enter Trym.func12, Trym.ntmps12
      go_wp2
      go_ret
      exact ⟨rfl, rfl⟩
end Go.Proofs.Qxb6001331aMods
