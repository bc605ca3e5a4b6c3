/-
  PLAIN ARITHMETIC for the law 'FnP256DigitsMatchDivisionModel': adding with carry, and shifting right by six bits, in base 256.
-/
import Derived.Test.Qxb6000103aModsPlain
namespace Go.Proofs.Qxb6000103aMods.Plain

/-- f holds bytes at its first n places. -/
def Bytes (n : Nat) (f : Nat → Int) : Prop := ∀ k, k < n → 0 ≤ f k ∧ f k ≤ 255
theorem Bytes.upd {n : Nat} {f : Nat → Int} (h : Bytes n f) {p : Nat} {x : Int} (hx : 0 ≤ x ∧ x ≤ 255) : Bytes n (upd f p x) := by
  intro k hk
  unfold Plain.upd
  split
  · exact hx
  · exact h k hk

theorem V_mod64 (n : Nat) (f : Nat → Int) : V (n + 1) f % 64 = f 0 % 64 := by rw [V]; omega

/-- 33 bytes: the scalar's, the low one first, and a zero. -/
def pad33 (z : Nat → Int) (j : Nat) : Int := if j < 32 then z (31 - j) else 0
theorem V_pad33 : ∀ (n m : Nat) (f : Nat → Int), (∀ k, n ≤ k → f k = 0) → V (n + m) f = V n f
  | 0, m, f, h => by rw [Nat.zero_add, V_congr m f (fun _ => 0) (fun k _ => h k (by omega)), V_zero]; rfl
  | n + 1, m, f, h => by rw [show n + 1 + m = (n + m) + 1 by omega, V, V, V_pad33 n m (fun k => f (k + 1)) (fun k hk => h (k + 1) (by omega))]
theorem pad33_V (z : Nat → Int) : V 33 (pad33 z) = V 32 (fun k => z (31 - k)) := by
  rw [show (33 : Nat) = 32 + 1 from rfl, V_pad33 32 1 (pad33 z) (fun k hk => by unfold pad33; rw [if_neg (by omega)])]
  exact V_congr 32 _ _ (fun k hk => by unfold pad33; rw [if_pos hk])
theorem pad33_bytes (z : Nat → Int) (hz : ∀ i, i < 32 → 0 ≤ z i ∧ z i ≤ 255) : Bytes 33 (pad33 z) := by
  intro k _
  unfold pad33
  split
  · exact hz _ (by omega)
  · omega

/-- One place of the addition with carry. -/
theorem add_step (n : Nat) (g : Nat → Int) (k : Nat) (c : Int) (hk : k < n) :
    V n (upd g k ((g k + c) % 256)) + (g k + c) / 256 * p2 (8 * (k + 1)) = V n g + c * p2 (8 * k) := by
  rw [V_upd n g k _ hk, show 8 * (k + 1) = 8 * k + 8 by omega, p2_8]
  have e : (g k + c) / 256 * (256 * p2 (8 * k)) = (g k + c) / 256 * 256 * p2 (8 * k) := by rw [Int.mul_assoc]
  rw [e, Int.add_assoc, ← Int.add_mul, show (g k + c) % 256 - g k + (g k + c) / 256 * 256 = c by omega]

/-- All of it shifted right by six bits. -/
def shr6 (n : Nat) (g : Nat → Int) (j : Nat) : Int := if j < n then g j / 64 + g (j + 1) % 64 * 4 else g j / 64
theorem shr6_V : ∀ (n : Nat) (g : Nat → Int), Bytes (n + 1) g → V (n + 1) (shr6 n g) = V (n + 1) g / 64
  | 0, g, _ => by simp [V, shr6]
  | n + 1, g, h => by
    have ih := shr6_V n (fun k => g (k + 1)) (fun k hk => h (k + 1) (by omega))
    have e : V (n + 1) (fun k => shr6 (n + 1) g (k + 1)) = V (n + 1) (shr6 n (fun k => g (k + 1))) :=
      V_congr _ _ _ (fun k _ => by
        unfold shr6
        by_cases hk : k < n
        · rw [if_pos (by omega), if_pos hk]
        · rw [if_neg (by omega), if_neg hk])
    have m := V_mod64 n (fun k => g (k + 1))
    have h0 := h 0 (by omega)
    have hd : shr6 (n + 1) g 0 = g 0 / 64 + g (0 + 1) % 64 * 4 := by unfold shr6; rw [if_pos (by omega)]
    rw [V, e, ih, hd, V.eq_def (n + 1 + 1) g]
    simp only
    generalize V (n + 1) (fun k => g (k + 1)) = y at m
    omega
theorem shr6_bytes (n : Nat) (g : Nat → Int) (h : Bytes (n + 1) g) : Bytes (n + 1) (shr6 n g) := by
  intro k hk
  have h0 := h k hk
  unfold shr6
  by_cases e : k < n
  · rw [if_pos e]; omega
  · rw [if_neg e]; omega

/-- What is left stays far below 2 to the 264. -/
theorem left_small (x : Int) (h0 : 0 ≤ x) (hx : x < p2 256) (i : Nat) : left x i + 100 < p2 264 := by
  have h1 : ∀ j, sh x j ≤ x := by
    intro j
    induction j with
    | zero => exact Int.le_refl _
    | succ j ih => have := sh_nonneg x h0 j; simp only [sh]; omega
  have h2 := h1 (6 * i)
  have h3 := carry_01 x i
  have h4 : p2 264 = 256 * p2 256 := p2_8 256
  have h5 := p2_pos 256
  unfold left
  rw [h4]
  omega

/-- At the end of the addition nothing is carried out. -/
theorem no_carry (g : Nat → Int) (c T : Int) (hg : Bytes 33 g) (hc : 0 ≤ c) (hT : T < p2 264) (h : V 33 g + c * p2 (8 * 33) = T) : c = 0 := by
  have h1 := (V_bounds 33 g hg).1
  by_cases e : c = 0
  · exact e
  · exfalso
    have h2 : p2 (8 * 33) ≤ c * p2 (8 * 33) := by
      have := Int.mul_le_mul_of_nonneg_right (show (1 : Int) ≤ c by omega) (Int.le_of_lt (p2_pos (8 * 33)))
      rwa [Int.one_mul] at this
    have h3 : p2 (8 * 33) = p2 264 := rfl
    omega

end Go.Proofs.Qxb6000103aMods.Plain
