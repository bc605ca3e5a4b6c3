/-
  THE WALK's OWN FORMS ('bits', 'wrap64', powers of 2) against the plain arithmetic.
-/
import Derived.WalkKit
import Derived.Laws.BitsLemmas
import Derived.Laws.BitsAllLaws
import Derived.Test.Qxb6000103aModsPlain
namespace Go.Proofs.Qxb6000103aMods
open Go.RowKit Plain

theorem wr64 (n : Int) (h1 : -1000000000000 ≤ n) (h2 : n ≤ 1000000000000) : wrap64 n = n := by unfold wrap64; omega
theorem sh_div (x : Int) (j : Nat) : x / 2 ^ j = sh x j := by
  induction j with
  | zero => simp [sh]
  | succ j ih => simp only [sh]; rw [← ih, Int.pow_succ, Int.ediv_ediv_of_nonneg (Int.pow_nonneg (by decide))]
theorem sh_le (x : Int) (h0 : 0 ≤ x) (j : Nat) : 0 ≤ sh x j ∧ sh x j ≤ x := by
  induction j with
  | zero => exact ⟨h0, Int.le_refl _⟩
  | succ j ih => simp only [sh]; omega
theorem u8_and1 (x : Int) (h0 : 0 ≤ x) (h1 : x < 256) : bits .and .u8 x 1 = x % 2 := bits_mask .u8 8 (by decide) wraps_u8 1 (by decide) x h0 h1
theorem p2_small (m : Nat) (h : m < 8) : 1 ≤ p2 m ∧ p2 m ≤ 128 := by
  rcases (show m = 0 ∨ m = 1 ∨ m = 2 ∨ m = 3 ∨ m = 4 ∨ m = 5 ∨ m = 6 ∨ m = 7 by omega) with rfl | rfl | rfl | rfl | rfl | rfl | rfl | rfl <;> simp [p2]
/-- One bit added to a digit, as the walk spells it. -/
theorem bit_step (y S : Int) (r m : Nat) (hy : 0 ≤ y ∧ y ≤ 255) (hm : m < 6) (hS : 0 ≤ S ∧ S ≤ 100) :
    wrap64 (S + wrap64 (wrap64 (bits .and .u8 (y / 2 ^ r) 1) * 2 ^ m)) = S + sh y r % 2 * p2 m := by
  have h1 := sh_le y hy.1 r
  have h2 := p2_small m (by omega)
  rw [sh_div, u8_and1 _ h1.1 (by omega), wr64 (sh y r % 2) (by omega) (by omega), ← p2_pow]
  rcases (show sh y r % 2 = 0 ∨ sh y r % 2 = 1 by omega) with e | e <;> rw [e]
  · rw [Int.zero_mul, wr64 0 (by decide) (by decide), wr64 _ (by omega) (by omega)]
  · rw [Int.one_mul, wr64 (p2 m) (by omega) (by omega), wr64 _ (by omega) (by omega)]
/-- The low two bits of one byte under the low six of the next. -/
theorem or6 (a b : Int) (ha : 0 ≤ a ∧ a ≤ 255) : bits .or .u8 (a / 64) (b * 4 % 256) = a / 64 + b % 64 * 4 := by
  have h := bits_join .u8 8 (by decide) wraps_u8 2 (b % 64 * 4) (a / 64) (by omega) (by omega) (by omega) (by omega) (by omega) (by omega)
  rw [show b * 4 % 256 = b % 64 * 4 by omega]
  rw [u8_or _ _ (by omega) (by omega) (by omega) (by omega)] at h ⊢
  rw [Nat.or_comm, h]; omega
theorem wraps_i64 (n : Int) (h₀ : 0 ≤ n) (h₁ : n < 2 ^ 62) : IntKind.i64.wrap n = n := by rw [IntKind.wrap_i64]; omega
theorem and255 (s : Int) (h0 : 0 ≤ s) (h1 : s < 1000000) : bits .and .i64 s 255 % 256 = s % 256 := by
  have h := bits_mask .i64 62 (by decide) wraps_i64 8 (by decide) s h0 (by omega)
  have e : ((2 : Int) ^ 8 - 1) = 255 := by decide
  have e2 : ((2 : Int) ^ 8) = 256 := by decide
  rw [e, e2] at h
  rw [h]; omega
end Go.Proofs.Qxb6000103aMods
