/-
  A firstBytes THAT HAS BEEN WRITTEN THE FIRST i BYTES OF A STREAM z: it keeps the first min(i, 1024) of them.
-/
import Derived.Test.Qxb6001331aModsSame
namespace Go.Proofs.Qxb6001331aMods
open Go.RowKit

/-- The first i bytes of z, then zeros. -/
def pre (z : Nat → Int) (i j : Nat) : Int := if j < i then z j else 0
/-- Block g holds a firstBytes that was written the first i bytes of z. -/
def Kept (w : World) (g : Nat) (z : Nat → Int) (i : Nat) : Prop := FB w g (pre z i) ((min i 1024 : Nat) : Int)

theorem fbCells_congr {f f' : Nat → Int} {n : Int} (h : ∀ j, j < 1024 → f j = f' j) : fbCells f n = fbCells f' n := by
  unfold fbCells; rw [row_congr h]
theorem FB.congr {w : World} {g : Nat} {f f' : Nat → Int} {n n' : Int} (hfb : FB w g f n) (h : ∀ j, j < 1024 → f j = f' j) (hn : n = n') : FB w g f' n' := by
  unfold FB at *; rw [hfb, fbCells_congr h, hn]

theorem Kept.new (w : World) (z : Nat → Int) : Kept (w.alloc (.cells (fbCells (fun _ => 0) 0) 38)) w.heap.size z 0 :=
  FB.congr (f := fun _ => 0) (n := 0) (heap_alloc_new w _) (fun j _ => by unfold pre; rw [if_neg (by omega)]) (by simp)
theorem Kept.keep {w w' : World} {g : Nat} {z : Nat → Int} {i : Nat} (h : Kept w g z i) (hk : w'.heap[g]? = w.heap[g]?) : Kept w' g z i := by
  unfold Kept FB at *; rw [hk]; exact h
theorem Kept.lt {w : World} {g : Nat} {z : Nat → Int} {i : Nat} (h : Kept w g z i) : g < w.heap.size := FB.lt h
/-- What is kept, as a slice. -/
theorem Kept.src {w : World} {g : Nat} {z : Nat → Int} {i : Nat} (h : Kept w g z i) : Src w (some ⟨g, 0, none⟩) (min i 1024) z := fun _ =>
  ⟨g, 0, rfl, fun j hj => by rw [Nat.zero_add, FB.cell h (by omega)]; unfold pre; rw [if_pos (by omega)]⟩
theorem Kept.drewN {w : World} {g : Nat} {z : Nat → Int} {i : Nat} (h : Kept w g z i) (q : Nat) : Kept (w.drewN q) g z i := h
theorem Kept.congr {w : World} {g : Nat} {z z' : Nat → Int} {i : Nat} (h : Kept w g z i) (e : ∀ j, j < i → z j = z' j) : Kept w g z' i :=
  FB.congr h (fun j _ => by unfold pre; by_cases hj : j < i <;> simp [hj]; exact e j hj) rfl
theorem Src.congr {w : World} {p : Option Addr} {n : Nat} {z z' : Nat → Int} (h : Src w p n z) (e : ∀ j, j < n → z j = z' j) : Src w p n z' := fun hn => by
  obtain ⟨b, off, rfl, hc⟩ := h hn
  exact ⟨b, off, rfl, fun j hj => by rw [hc j hj, e j hj]⟩

theorem new_pre (w : World) : Calls Trym.prog 8 #[] w fun e w' => e = .returned (.pointer (some ⟨w.heap.size, 0, none⟩)) ∧ (∀ z, Kept w' w.heap.size z 0) ∧ Below w.heap.size w w' ∧ w'.heap.size = w.heap.size + 1 :=
  (new_any w).mono fun e w' ⟨he, hw⟩ => ⟨he, by rw [hw]; exact fun z => Kept.new w z, by rw [hw]; exact (Below.refl _ _).alloc (Nat.le_refl _) _, by rw [hw]; simp⟩

theorem write_pre (g : Nat) (z : Nat → Int) (i : Nat) (sp : Option Addr) (m c : Nat) (w : World) (hk : Kept w g z i) (hs : Src w sp m (fun j => z (i + j))) :
    Calls Trym.prog 9 #[.pointer (some ⟨g, 0, none⟩), .slice sp m c] w fun e w' => e = .returned (.tuple #[.int .i64 m, .nilIface]) ∧ Kept w' g z (i + m) ∧ OnlyAt g w w' :=
  (write_any g (pre z i) (min i 1024) sp m c (fun j => z (i + j)) w hk (by omega) hs).mono fun e w' ⟨he, hf, ho⟩ => ⟨he, hf.congr (fun j hj => by
    unfold wrote pre
    by_cases h1 : min i 1024 ≤ j ∧ j < min i 1024 + m
    · rw [if_pos h1, if_pos (by omega)]; show z (i + (j - min i 1024)) = z j; rw [show i + (j - min i 1024) = j by omega]
    · rw [if_neg h1]
      by_cases h2 : j < i
      · rw [if_pos h2, if_pos (by omega)]
      · rw [if_neg h2, if_neg (by omega)]) (by
    unfold kept
    have h2 : Nat.min m (1024 - min i 1024) = min m (1024 - min i 1024) := rfl
    rw [h2]; omega), ho⟩

theorem kept_pre (g : Nat) (z : Nat → Int) (i : Nat) (w : World) (hk : Kept w g z i) :
    Calls Trym.prog 10 #[.pointer (some ⟨g, 0, none⟩)] w fun e w' => e = .returned (.slice (some ⟨g, 0, none⟩) (min i 1024) 1024) ∧ ∃ q, w' = w.drewN q :=
  kept_any g (pre z i) (min i 1024) w hk (by omega)
theorem Src.drewN {w : World} {p : Option Addr} {n : Nat} {z : Nat → Int} (h : Src w p n z) (q : Nat) : Src (w.drewN q) p n z := h
theorem min_lt (x y : Int) (w : World) (h : x < y) : Calls Trym.prog 11 #[.int .i64 x, .int .i64 y] w fun e w' => e = .returned (.int .i64 x) ∧ w' = w := by
  go_enter Trym.func11, Trym.ntmps11
  go_wp2
  go_ret
  exact ⟨rfl, rfl⟩
theorem min_ge (x y : Int) (w : World) (h : ¬ x < y) : Calls Trym.prog 11 #[.int .i64 x, .int .i64 y] w fun e w' => e = .returned (.int .i64 y) ∧ w' = w := by
  go_enter Trym.func11, Trym.ntmps11
  go_wp2
  go_ret
  exact ⟨rfl, rfl⟩
/-- The same, its length named. -/
theorem kept_len (g : Nat) (z : Nat → Int) (i L : Nat) (w : World) (hk : Kept w g z i) (hL : L = min i 1024) :
    Calls Trym.prog 10 #[.pointer (some ⟨g, 0, none⟩)] w fun e w' => e = .returned (.slice (some ⟨g, 0, none⟩) L 1024) ∧ ∃ q, w' = w.drewN q := by
  rw [hL]; exact kept_pre g z i w hk
theorem below_drewN {B : Nat} {a w : World} (h : Below B a w) (n : Nat) : Below B a (w.drewN n) := h.trans ⟨rfl, rfl, rfl, Nat.le_refl _, fun _ _ => rfl⟩
end Go.Proofs.Qxb6001331aMods
