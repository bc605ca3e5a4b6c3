/-
  A ROW OF INTEGERS IN A BLOCK OF THE CALL's OWN: what its cells hold, as a function of the index.
-/
import Derived.WalkKit
import Derived.Laws.Rows
import Derived.WalkSpells
import Derived.Laws.MakeOwn
import Derived.Laws.OwnMore
namespace Go.Proofs.Qxb6604173aMods
open Go.RowKit

/-- f with its value at p set to x. -/
def upd (f : Nat → Int) (p : Nat) (x : Int) : Nat → Int := fun j => if j = p then x else f j
theorem upd_same (f : Nat → Int) (p : Nat) (x : Int) : upd f p x p = x := by simp [upd]
theorem upd_other (f : Nat → Int) {p j : Nat} (x : Int) (h : j ≠ p) : upd f p x j = f j := by simp [upd, h]

/-- n integers of kind k, the i-th being f i. -/
def row (k : IntKind) (n : Nat) (f : Nat → Int) : Array Value := Array.ofFn (n := n) fun i => Value.int k (f i)
theorem row_size (k : IntKind) (n : Nat) (f : Nat → Int) : (row k n f).size = n := by simp [row]
theorem row_get {k : IntKind} {n : Nat} {f : Nat → Int} {j : Nat} (h : j < n) : (row k n f)[j]? = some (.int k (f j)) := by simp [row, h]
theorem row_congr {k : IntKind} {n : Nat} {f g : Nat → Int} (h : ∀ j, j < n → f j = g j) : row k n f = row k n g := by
  unfold row
  congr 1
  funext i
  rw [h i.1 i.2]
theorem row_set {k : IntKind} {n : Nat} {f : Nat → Int} {i : Nat} {x : Int} : (row k n f).setIfInBounds i (.int k x) = row k n (upd f i x) := by
  apply Array.ext_getElem?
  intro j
  rw [Array.getElem?_setIfInBounds]
  by_cases e : i = j
  · subst e
    rw [if_pos rfl]
    by_cases hi : i < n
    · rw [row_get hi, upd_same, if_pos (by rw [row_size]; exact hi)]
    · rw [if_neg (by rw [row_size]; exact hi), Array.getElem?_eq_none (by rw [row_size]; omega)]
  · rw [if_neg e]
    by_cases hj : j < n
    · rw [row_get hj, row_get hj, upd_other f x (fun c => e c.symm)]
    · rw [Array.getElem?_eq_none (by rw [row_size]; omega), Array.getElem?_eq_none (by rw [row_size]; omega)]

/-- Block g holds n integers of kind k, the i-th being f i; none is frozen. -/
def RowIn (k : IntKind) (w : World) (g : Nat) (t : TypeId) (n : Nat) (f : Nat → Int) : Prop := w.heap[g]? = some (.cells (row k n f) t (0, 0))

section
variable {k : IntKind} {w : World} {g : Nat} {t : TypeId} {n : Nat} {f : Nat → Int}
theorem RowIn.cell (h : RowIn k w g t n f) {j : Nat} (hj : j < n) : w.cell? ⟨g, j, none⟩ = some (.int k (f j)) := by
  rw [cell_of_row w g j _ t _ h, row_get hj]
theorem RowIn.free (h : RowIn k w g t n f) (j : Nat) : w.frozen? ⟨g, j, none⟩ = false := frozen_of_row w g j _ t h
theorem RowIn.lt (h : RowIn k w g t n f) : g < w.heap.size := by
  rcases Nat.lt_or_ge g w.heap.size with h' | h'
  · exact h'
  · unfold RowIn at h; rw [Array.getElem?_eq_none h'] at h; cases h
theorem RowIn.congr (h : RowIn k w g t n f) {f' : Nat → Int} (e : ∀ j, j < n → f j = f' j) : RowIn k w g t n f' := by
  unfold RowIn at *; rw [h, row_congr e]
theorem RowIn.alloc (h : RowIn k w g t n f) (o : Obj) : RowIn k (w.alloc o) g t n f := by
  unfold RowIn; rw [heap_alloc_old w o (h := h.lt)]; exact h
theorem RowIn.drew (h : RowIn k w g t n f) : RowIn k w.drew g t n f := h
theorem RowIn.setCell (h : RowIn k w g t n f) (i : Nat) (x : Int) : RowIn k (w.setCell ⟨g, i, none⟩ (.int k x)) g t n (upd f i x) := by
  unfold RowIn; rw [heap_setCell_same w g i _ t _ h, row_set]
theorem RowIn.other (h : RowIn k w g t n f) {a : Addr} (ha : g ≠ a.block) (v : Value) : RowIn k (w.setCell a v) g t n f := by
  unfold RowIn; rw [heap_setCell_other w a g v ha]; exact h
theorem RowIn.below (h : RowIn k w g t n f) {B : Nat} {w' : World} (hb : Below B w w') (hg : g < B) : RowIn k w' g t n f := by
  unfold RowIn; rw [hb.block g hg]; exact h
theorem RowIn.new (k : IntKind) (w : World) (t : TypeId) (n : Nat) (f : Nat → Int) : RowIn k (w.alloc (.cells (row k n f) t)) w.heap.size t n f :=
  heap_alloc_new w _
/-- A row that is filled from the left, one element more. -/
theorem RowIn.snoc {F G : Nat → Int} {m : Nat} {x : Int} (h : RowIn k w g t n (fun j => if j < m then F j else G j)) (hx : x = F m) : RowIn k (w.setCell ⟨g, m, none⟩ (.int k x)) g t n (fun j => if j < m + 1 then F j else G j) :=
  (h.setCell m x).congr (fun j _ => by
    unfold upd
    by_cases e : j = m
    · subst e; rw [if_pos rfl, if_pos (by omega)]; exact hx
    · rw [if_neg e]; show (if j < m then F j else G j) = _
      by_cases e2 : j < m
      · rw [if_pos e2, if_pos (by omega)]
      · rw [if_neg e2, if_neg (by omega)])
theorem row_oneCell (k : IntKind) (n : Nat) (f : Nat → Int) : (row k n f).all (·.oneCell') = true := by
  rw [Array.all_eq_true_iff_forall_mem]
  intro v hv
  simp only [row, Array.mem_ofFn] at hv
  obtain ⟨i, rfl⟩ := hv
  rfl
/-- A whole row is stored. -/
theorem RowIn.setRow (h : RowIn k w g t n f) (f' : Nat → Int) : RowIn k (w.setRow g (row k n f')) g t n f' := setRow_heap w g _ _ t _ h
theorem RowIn.setRow_other (h : RowIn k w g t n f) {g' : Nat} (cs : Array Value) (hg : g ≠ g') : RowIn k (w.setRow g' cs) g t n f := by
  unfold RowIn; rw [Go.setRow_other w g' g cs hg]; exact h
end
theorem row_made (k : IntKind) (n : Nat) : madeCells #[.int k 0] n = row k n (fun _ => 0) := by
  apply Array.ext'
  rw [toList_madeCells_one]
  apply List.ext_getElem?
  intro j
  by_cases h : j < n
  · rw [List.getElem?_replicate, if_pos h, Array.getElem?_toList, row_get h]
  · rw [List.getElem?_replicate, if_neg h, Array.getElem?_toList, Array.getElem?_eq_none (by rw [row_size]; omega)]
theorem Below_setRow {B : Nat} {a w : World} (h : Below B a w) {g : Nat} (hg : B ≤ g) (cs : Array Value) : Below B a (w.setRow g cs) :=
  h.trans ⟨rfl, rfl, rfl, by simp, fun k hk => setRow_other w g k cs (by omega)⟩
end Go.Proofs.Qxb6604173aMods
