/-
  PLAIN ARITHMETIC for the two laws on p256Digits: base 256, shifts by one bit, the signed digits. No Go in sight.
-/
namespace Go.Proofs.Qxb6000103aMods.Plain

/-- f with its value at p set to x. -/
def upd (f : Nat → Int) (p : Nat) (x : Int) : Nat → Int := fun j => if j = p then x else f j
theorem upd_same (f : Nat → Int) (p : Nat) (x : Int) : upd f p x p = x := by simp [upd]
theorem upd_other (f : Nat → Int) {p j : Nat} (x : Int) (h : j ≠ p) : upd f p x j = f j := by simp [upd, h]

/-- 2 to the j. -/
def p2 : Nat → Int
  | 0 => 1
  | j + 1 => 2 * p2 j
theorem p2_add (a b : Nat) : p2 (a + b) = p2 a * p2 b := by
  induction b with
  | zero => simp [p2]
  | succ b ih => rw [Nat.add_succ]; simp only [p2]; rw [ih, Int.mul_left_comm]
theorem p2_pow (a : Nat) : p2 a = 2 ^ a := by
  induction a with
  | zero => rfl
  | succ a ih => simp only [p2]; rw [ih, Int.pow_succ, Int.mul_comm]
theorem p2_8 (a : Nat) : p2 (a + 8) = 256 * p2 a := by simp only [p2]; omega
theorem p2_6 (a : Nat) : p2 (a + 6) = 64 * p2 a := by simp only [p2]; omega
theorem p2_pos (a : Nat) : 0 < p2 a := by
  induction a with
  | zero => decide
  | succ a ih => simp only [p2]; omega

/-- The number with the base-256 digits f 0, f 1, .., f (n - 1), the low one first. -/
def V : Nat → (Nat → Int) → Int
  | 0, _ => 0
  | n + 1, f => f 0 + 256 * V n (fun k => f (k + 1))

theorem V_congr : ∀ (n : Nat) (f g : Nat → Int), (∀ k, k < n → f k = g k) → V n f = V n g
  | 0, _, _, _ => rfl
  | n + 1, f, g, h => by
    simp only [V]
    rw [h 0 (by omega), V_congr n (fun k => f (k + 1)) (fun k => g (k + 1)) (fun k hk => h (k + 1) (by omega))]

theorem V_zero : ∀ (n : Nat), V n (fun _ => 0) = 0
  | 0 => rfl
  | n + 1 => by simp only [V]; rw [V_zero n]; rfl

/-- One digit is set. -/
theorem V_upd : ∀ (n : Nat) (f : Nat → Int) (p : Nat) (x : Int), p < n → V n (upd f p x) = V n f + (x - f p) * p2 (8 * p)
  | 0, _, _, _, h => by omega
  | n + 1, f, 0, x, _ => by
    simp only [V]
    rw [upd_same, V_congr n (fun k => upd f 0 x (k + 1)) (fun k => f (k + 1)) (fun k _ => upd_other f x (by omega))]
    simp only [p2]
    omega
  | n + 1, f, p + 1, x, h => by
    simp only [V]
    rw [upd_other f x (by omega), V_congr n (fun k => upd f (p + 1) x (k + 1)) (upd (fun k => f (k + 1)) p x)
      (fun k _ => by by_cases e : k = p <;> simp [upd, e]),
      V_upd n (fun k => f (k + 1)) p x (by omega), show 8 * (p + 1) = 8 * p + 8 by omega, p2_8, Int.mul_left_comm]
    omega

/-- Digits between 0 and 255 make a number between 0 and 256^n. -/
theorem V_bounds : ∀ (n : Nat) (f : Nat → Int), (∀ k, k < n → 0 ≤ f k ∧ f k ≤ 255) → 0 ≤ V n f ∧ V n f < p2 (8 * n)
  | 0, _, _ => ⟨Int.le_refl _, by show (0 : Int) < 1; decide⟩
  | n + 1, f, h => by
    have h0 := h 0 (by omega)
    have ih := V_bounds n (fun k => f (k + 1)) (fun k hk => h (k + 1) (by omega))
    simp only [V]
    rw [show 8 * (n + 1) = 8 * n + 8 by omega, p2_8]
    omega

/-- The digits between 0 and 255 are unique, and so is what lies above them. -/
theorem V_unique : ∀ (n : Nat) (f g : Nat → Int), (∀ k, k < n → 0 ≤ f k ∧ f k ≤ 255) → (∀ k, k < n → 0 ≤ g k ∧ g k ≤ 255) → V (n + 1) f = V (n + 1) g → ∀ k, k ≤ n → f k = g k
  | 0, f, g, _, _, h, k, hk => by
    simp only [V] at h
    obtain rfl : k = 0 := by omega
    omega
  | n + 1, f, g, hf, hg, h, k, hk => by
    rw [V.eq_def (n + 1 + 1) f, V.eq_def (n + 1 + 1) g] at h
    simp only at h
    have f0 := hf 0 (by omega)
    have g0 := hg 0 (by omega)
    match k, hk with
    | 0, _ => omega
    | k + 1, hk =>
      exact V_unique n (fun k => f (k + 1)) (fun k => g (k + 1)) (fun k hk => hf (k + 1) (by omega)) (fun k hk => hg (k + 1) (by omega)) (by omega) k (by omega)

/-- All digits of 0 are 0. -/
theorem V_all_zero : ∀ (n : Nat) (f : Nat → Int), (∀ k, k < n → 0 ≤ f k ∧ f k ≤ 255) → V n f = 0 → ∀ k, k < n → f k = 0
  | 0, _, _, _, k, hk => by omega
  | n + 1, f, hf, h, k, hk => by
    rw [V] at h
    have f0 := hf 0 (by omega)
    have ih := V_bounds n (fun k => f (k + 1)) (fun k hk => hf (k + 1) (by omega))
    match k, hk with
    | 0, _ => omega
    | k + 1, hk => exact V_all_zero n (fun k => f (k + 1)) (fun k hk => hf (k + 1) (by omega)) (by omega) k (by omega)

/-! ### Shifts by one bit -/
/-- x shifted right j times by one bit. -/
def sh (x : Int) : Nat → Int
  | 0 => x
  | j + 1 => sh x j / 2

theorem sh_add (x : Int) (a b : Nat) : sh x (a + b) = sh (sh x a) b := by
  induction b with
  | zero => rfl
  | succ b ih => rw [Nat.add_succ]; simp only [sh]; rw [ih]
theorem sh_6 (x : Int) (a : Nat) : sh x (a + 6) = sh x a / 64 := by simp only [sh]; omega
theorem sh_8 (x : Int) (a : Nat) : sh x (a + 8) = sh x a / 256 := by simp only [sh]; omega
theorem sh_zero (j : Nat) : sh 0 j = 0 := by
  induction j with
  | zero => rfl
  | succ j ih => simp only [sh]; rw [ih]; rfl
theorem sh_nonneg (x : Int) (h : 0 ≤ x) (j : Nat) : 0 ≤ sh x j := by
  induction j with
  | zero => exact h
  | succ j ih => simp only [sh]; omega

/-- Shifted by q bytes. -/
theorem sh_V : ∀ (q n : Nat) (f : Nat → Int), (∀ k, k < q + n → 0 ≤ f k ∧ f k ≤ 255) → sh (V (q + n) f) (8 * q) = V n (fun k => f (q + k))
  | 0, n, f, _ => by simp [sh]
  | q + 1, n, f, h => by
    have f0 := h 0 (by omega)
    rw [show 8 * (q + 1) = 8 + 8 * q by omega, sh_add, show q + 1 + n = (q + n) + 1 by omega, V]
    have e : sh (f 0 + 256 * V (q + n) (fun k => f (k + 1))) 8 = V (q + n) (fun k => f (k + 1)) := by
      rw [show (8 : Nat) = 0 + 8 from rfl, sh_8]; simp only [sh]; omega
    rw [e, sh_V q n (fun k => f (k + 1)) (fun k hk => h (k + 1) (by omega))]
    exact V_congr n _ _ (fun k _ => by rw [show q + k + 1 = q + 1 + k by omega])

/-- A bit of a number is a bit of its digit. -/
theorem sh_bit (n q r : Nat) (f : Nat → Int) (hf : ∀ k, k < n → 0 ≤ f k ∧ f k ≤ 255) (hq : q < n) (hr : r < 8) : sh (V n f) (8 * q + r) % 2 = sh (f q) r % 2 := by
  obtain ⟨m, rfl⟩ : ∃ m, n = q + (m + 1) := ⟨n - q - 1, by omega⟩
  rw [sh_add, sh_V q (m + 1) f hf, V]
  have h0 := hf q (by omega)
  simp only [Nat.add_zero]
  generalize V m (fun k => f (q + (k + 1))) = y
  generalize f q = x at h0
  rcases (show r = 0 ∨ r = 1 ∨ r = 2 ∨ r = 3 ∨ r = 4 ∨ r = 5 ∨ r = 6 ∨ r = 7 by omega) with rfl | rfl | rfl | rfl | rfl | rfl | rfl | rfl <;> simp only [sh] <;> omega

/-- Beyond the last digit all bits are 0. -/
theorem sh_top (n : Nat) (f : Nat → Int) (hf : ∀ k, k < n → 0 ≤ f k ∧ f k ≤ 255) (j : Nat) (hj : 8 * n ≤ j) : sh (V n f) j = 0 := by
  obtain ⟨m, rfl⟩ : ∃ m, j = 8 * n + m := ⟨j - 8 * n, by omega⟩
  have h := sh_V n 0 f hf
  rw [Nat.add_zero] at h
  rw [sh_add, h, V, sh_zero]

/-! ### The digits -/
/-- The low b bits of x, summed bit by bit. -/
def lo (x : Int) : Nat → Int
  | 0 => 0
  | b + 1 => lo x b + sh x b % 2 * p2 b
theorem lo_6 (x : Int) : lo x 6 = x % 64 := by simp only [lo, sh, p2]; omega
theorem lo_bounds (x : Int) (b : Nat) (h : b ≤ 6) : 0 ≤ lo x b ∧ lo x b ≤ 63 := by
  rcases (show b = 0 ∨ b = 1 ∨ b = 2 ∨ b = 3 ∨ b = 4 ∨ b = 5 ∨ b = 6 by omega) with rfl | rfl | rfl | rfl | rfl | rfl | rfl <;> simp only [lo, sh, p2] <;> omega

/-- The carry into place i of x. -/
def carry (x : Int) : Nat → Int
  | 0 => 0
  | i + 1 => if 32 < carry x i + sh x (6 * i) % 64 then 1 else 0
/-- The digit of x at place i. -/
def dig (x : Int) (i : Nat) : Int := carry x i + sh x (6 * i) % 64 - 64 * carry x (i + 1)

theorem carry_01 (x : Int) (i : Nat) : 0 ≤ carry x i ∧ carry x i ≤ 1 := by
  cases i with
  | zero => simp [carry]
  | succ i => simp only [carry]; split <;> omega
theorem dig_bounds (x : Int) (i : Nat) : -31 ≤ dig x i ∧ dig x i ≤ 32 := by
  have h := carry_01 x i
  simp only [dig, carry]; split <;> omega

theorem carry_hi (x : Int) (i : Nat) (h : 32 < carry x i + sh x (6 * i) % 64) : carry x (i + 1) = 1 ∧ dig x i = carry x i + sh x (6 * i) % 64 - 64 := by
  have e : carry x (i + 1) = 1 := by rw [carry, if_pos h]
  exact ⟨e, by rw [dig, e]; omega⟩
theorem carry_lo (x : Int) (i : Nat) (h : ¬ 32 < carry x i + sh x (6 * i) % 64) : carry x (i + 1) = 0 ∧ dig x i = carry x i + sh x (6 * i) % 64 := by
  have e : carry x (i + 1) = 0 := by rw [carry, if_neg h]
  exact ⟨e, by rw [dig, e]; omega⟩
/-- What is left of x at place i. -/
def left (x : Int) (i : Nat) : Int := sh x (6 * i) + carry x i
theorem left_zero (x : Int) : left x 0 = x := by simp [left, carry, sh]
theorem left_step (x : Int) (i : Nat) : left x i = dig x i + 64 * left x (i + 1) := by
  unfold left dig
  rw [show 6 * (i + 1) = 6 * i + 6 by omega, sh_6]
  omega
/-- The digit by division: the residue of what is left, taken in -31..32. -/
theorem dig_model (x : Int) (i : Nat) : (32 < left x i % 64 ∧ dig x i = left x i % 64 - 64) ∨ (left x i % 64 ≤ 32 ∧ dig x i = left x i % 64) := by
  have h := carry_01 x i
  have hl : left x i = sh x (6 * i) + carry x i := rfl
  by_cases h1 : 32 < carry x i + sh x (6 * i) % 64
  · have hd : dig x i = carry x i + sh x (6 * i) % 64 - 64 * 1 := by simp only [dig, carry]; rw [if_pos h1]
    omega
  · have hd : dig x i = carry x i + sh x (6 * i) % 64 - 64 * 0 := by simp only [dig, carry]; rw [if_neg h1]
    omega
theorem left_nonneg (x : Int) (h : 0 ≤ x) (i : Nat) : 0 ≤ left x i := by
  have := sh_nonneg x h (6 * i)
  have := carry_01 x i
  unfold left; omega
theorem carry_end (x : Int) (h : sh x (6 * 42) ≤ 15) (h0 : 0 ≤ sh x (6 * 42)) : carry x 43 = 0 := by
  have h4 := carry_01 x 42
  rw [carry, if_neg (by omega)]
theorem sh_252 (n : Nat) (f : Nat → Int) (hn : n = 31 + 1) (hf : ∀ k, k < n → 0 ≤ f k ∧ f k ≤ 255) : sh (V n f) (8 * 31) = f 31 := by
  subst hn
  rw [sh_V 31 1 f hf]
  generalize hq : 31 = q
  simp [V]
theorem left_end (x : Int) (n : Nat) (f : Nat → Int) (hn : n = 31 + 1) (hx : x = V n f) (hf : ∀ k, k < n → 0 ≤ f k ∧ f k ≤ 255) : left x 43 = 0 := by
  have h1 : sh x (6 * 43) = 0 := by rw [hx]; exact sh_top n f hf (6 * 43) (by omega)
  have h2 : sh x (8 * 31) = f 31 := by rw [hx]; exact sh_252 n f hn hf
  have h31 := hf 31 (by omega)
  have h3 : sh x (6 * 42) = f 31 / 16 := by
    rw [show 6 * 42 = 8 * 31 + 4 by omega, sh_add, h2]
    simp only [sh]; omega
  unfold left
  rw [h1, carry_end x (by omega) (by omega)]; rfl

/-- A bit of the big-endian scalar z, whose number is N. -/
theorem bit_of (z : Nat → Int) (N : Int) (hN : N = V 32 (fun k => z (31 - k))) (hz : ∀ i, i < 32 → 0 ≤ z i ∧ z i ≤ 255) (k m : Nat) (h : k * 6 + m < 256) :
    sh (z (31 - (k * 6 + m) / 8)) ((k * 6 + m) % 8) % 2 = sh (sh N (6 * k)) m % 2 := by
  have e := sh_bit 32 ((k * 6 + m) / 8) ((k * 6 + m) % 8) (fun k => z (31 - k)) (fun k _ => hz (31 - k) (by omega)) (by omega) (by omega)
  rw [← hN, show 8 * ((k * 6 + m) / 8) + (k * 6 + m) % 8 = 6 * k + m by omega, sh_add] at e
  exact e.symm
theorem bit_top (z : Nat → Int) (N : Int) (hN : N = V 32 (fun k => z (31 - k))) (hz : ∀ i, i < 32 → 0 ≤ z i ∧ z i ≤ 255) (k m : Nat) (h : ¬ k * 6 + m < 256) :
    sh (sh N (6 * k)) m = 0 := by
  rw [← sh_add, hN]
  exact sh_top 32 (fun k => z (31 - k)) (fun k _ => hz (31 - k) (by omega)) _ (by omega)
theorem left_43 (z : Nat → Int) (N : Int) (hN : N = V 32 (fun k => z (31 - k))) (hz : ∀ i, i < 32 → 0 ≤ z i ∧ z i ≤ 255) : left N 43 = 0 :=
  left_end N 32 (fun k => z (31 - k)) rfl hN (fun k _ => hz (31 - k) (by omega))

end Go.Proofs.Qxb6000103aMods.Plain
