/-
  A firstBytes IN MEMORY; THE WALK of 'ZZNewFirstBytes'.
-/
import Derived.Test.Qxb6001331aModsRows
import Derived.WalkKit
import Derived.WalkSpells
import Derived.WalkLawsBesides
import Derived.Deep.WholeRow
import Derived.Test.Qxb6001331aModsClone
namespace Go.Proofs.Qxb6001331aMods
open Go.RowKit

/-- The cells of a firstBytes: 1024 bytes, then how many are kept. -/
def fbCells (f : Nat → Int) (n : Int) : Array Value := (row .u8 1024 f).push (.int .i64 n)
theorem fbCells_size (f : Nat → Int) (n : Int) : (fbCells f n).size = 1025 := by simp [fbCells, row_size]
theorem fbCells_get {f : Nat → Int} {n : Int} {j : Nat} (h : j < 1024) : (fbCells f n)[j]? = some (.int .u8 (f j)) := by
  unfold fbCells
  rw [Array.getElem?_push, if_neg (by rw [row_size]; omega), row_get h]
theorem fbCells_n {f : Nat → Int} {n : Int} : (fbCells f n)[1024]? = some (.int .i64 n) := by
  unfold fbCells
  rw [Array.getElem?_push, if_pos (by rw [row_size])]
theorem fbCells_out {f : Nat → Int} {n : Int} {j : Nat} (h : 1025 ≤ j) : (fbCells f n)[j]? = none := Array.getElem?_eq_none (by rw [fbCells_size]; omega)
/-- Block g holds a firstBytes that keeps n bytes, the first ones of f. -/
def FB (w : World) (g : Nat) (f : Nat → Int) (n : Int) : Prop := w.heap[g]? = some (.cells (fbCells f n) 38 (0, 0))
theorem FB.cell {w : World} {g : Nat} {f : Nat → Int} {n : Int} (h : FB w g f n) {j : Nat} (hj : j < 1024) : w.cell? ⟨g, j, none⟩ = some (.int .u8 (f j)) := by
  rw [cell_of_row w g j _ 38 _ h, fbCells_get hj]
theorem FB.num {w : World} {g : Nat} {f : Nat → Int} {n : Int} (h : FB w g f n) : w.cell? ⟨g, 1024, none⟩ = some (.int .i64 n) := by
  rw [cell_of_row w g 1024 _ 38 _ h, fbCells_n]
theorem FB.free {w : World} {g : Nat} {f : Nat → Int} {n : Int} (h : FB w g f n) (j : Nat) : w.frozen? ⟨g, j, none⟩ = false := frozen_of_row w g j _ 38 h
theorem FB.lt {w : World} {g : Nat} {f : Nat → Int} {n : Int} (h : FB w g f n) : g < w.heap.size := by
  rcases Nat.lt_or_ge g w.heap.size with h' | h'
  · exact h'
  · unfold FB at h; rw [Array.getElem?_eq_none h'] at h; cases h

theorem zero38 : (Trym.prog.info? 38).map (fun i => (i.zero, i.size)) = some (some (.agg (fbCells (fun _ => 0) 0)), 1025) := by kernel_rfl

set_option maxHeartbeats 400000 in
theorem new_any (w : World) : Calls Trym.prog 8 #[] w fun e w' => e = .returned (.pointer (some ⟨w.heap.size, 0, none⟩)) ∧ w' = w.alloc (.cells (fbCells (fun _ => 0) 0) 38) := by
  have hz := (zero_of_info zero38).1
  go_enter Trym.func8, Trym.ntmps8
  go_wp2
  go_ret
  exact ⟨rfl, rfl⟩

/-- w' is w but for block g. -/
structure OnlyAt (g : Nat) (w w' : World) : Prop where
  os : w'.os = w.os
  tape : w'.tape = w.tape
  output : w'.output = w.output
  size : w'.heap.size = w.heap.size
  block : ∀ k, k ≠ g → w'.heap[k]? = w.heap[k]?
theorem OnlyAt.below {g : Nat} {w w' : World} (h : OnlyAt g w w') {B : Nat} (hB : B ≤ g) : Below B w w' :=
  ⟨h.os, h.tape, h.output, Nat.le_of_eq h.size.symm, fun k hk => h.block k (by omega)⟩
theorem OnlyAt.trans {g : Nat} {w w' w'' : World} (h : OnlyAt g w w') (h' : OnlyAt g w' w'') : OnlyAt g w w'' :=
  ⟨h'.os.trans h.os, h'.tape.trans h.tape, h'.output.trans h.output, h'.size.trans h.size, fun k hk => (h'.block k hk).trans (h.block k hk)⟩
end Go.Proofs.Qxb6001331aMods
