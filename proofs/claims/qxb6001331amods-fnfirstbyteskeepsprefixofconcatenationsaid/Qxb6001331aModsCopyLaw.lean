/-
  'copy(dst, src)' AS ONE STEP OF A REGION THAT DRAWS ITS ORDER, dst in a block that is known whole: THE BLOCK BEHIND IT IS GIVEN.
-/
import Derived.Test.Qxb6001331aModsNew
import Derived.Laws.CopyOwn
namespace Go.Proofs.Qxb6001331aMods
open Go.RowKit

theorem addr_add (b o j : Nat) : (⟨b, o, none⟩ : Addr).add j = ⟨b, o + j, none⟩ := by unfold Addr.add; split <;> simp_all
theorem setRow_self (w : World) (g : Nat) (cur : Array Value) (t : TypeId) (fr : Nat × Nat) (hg : w.heap[g]? = some (.cells cur t fr)) : w.setRow g cur = w := by
  have hlt : g < w.heap.size := (Array.getElem?_eq_some_iff.1 hg).1
  have hv : w.heap[g] = .cells cur t fr := (Array.getElem?_eq_some_iff.1 hg).2
  unfold World.setRow
  cases w with
  | mk heap tape drawn os output =>
    congr 1
    apply Array.ext
    · simp
    · intro k h1 h2
      simp only [Array.getElem_modify]
      split
      · rename_i hk; subst hk; simp at hv; simp [hv]
      · rfl

theorem step_copy_to {P : Program} {ops : Array Oper} {o : Oper} {a : Act} {w : World} {K : Act → World → Prop} {Q : Exit → Act → World → Prop} {E : Prop} (hgd : o.guard = none) (d s : Operand) (dT sT : TypeId)
    (ho : o.op = .call { callee := .builtin .copy, args := #[d, s], argTypes := #[dT, sT] }) (elem : TypeId) (hu : P.underlying dT = some (.slice elem)) (hsz : (P.info? elem).map (·.size) = some 1)
    (dp sp : Option Addr) (dLen dCap sLen sCap : Nat) (hd : a.eval d = .slice dp dLen dCap) (hs : a.eval s = .slice sp sLen sCap)
    (g off : Nat) (cur cur' : Array Value) (t : TypeId) (hg : w.heap[g]? = some (.cells cur t (0, 0))) (cs : List Value) (hn : cs.length = Nat.min sLen dLen)
    (hpos : 0 < cs.length → dp = some ⟨g, off, none⟩ ∧ ∃ ad, sp = some ad ∧ ∀ j v, cs[j]? = some v → w.cell? (ad.add j) = some v)
    (hfit : off + cs.length ≤ cur.size) (h1 : ∀ v ∈ cs, v.oneCell' = true) (hcur : cur' = (cur.toList.take off ++ (cs ++ cur.toList.drop (off + cs.length))).toArray)
    (h : K (a.put o.dst (goInt cs.length)) (w.setRow g cur')) :
    if Region.wanted o (yielded ops a.tmps) = true then Oper.wp P o a w K Q else E := by
  have hw : Region.wanted o (yielded ops a.tmps) = true := by simp [Region.wanted, hgd]
  rw [if_pos hw]
  by_cases h0 : cs.length = 0
  · obtain rfl : cs = [] := List.eq_nil_of_length_eq_zero h0
    have hrun := run_copy_none (P := P) w dT sT o.type elem dp sp dLen dCap sLen sCap hu hsz (by simpa using hn.symm)
    have e : cur' = cur := by rw [hcur]; simp
    rw [e, setRow_self w g cur t _ hg] at h
    unfold Oper.wp
    simp [execOp, ho, resolve, invoke, builtin, hd, hs, hrun, Result.andThen]
    exact h
  · obtain ⟨rfl, ad, rfl, hsrc⟩ := hpos (by omega)
    have hrun := run_copy_row (P := P) w dT sT o.type elem g off dLen dCap ad sLen sCap cur t cs hu hsz hg hn hsrc hfit h1
    unfold Oper.wp
    simp [execOp, ho, resolve, invoke, builtin, hd, hs, hrun, Result.andThen]
    rw [hcur] at h
    exact h

/-- The bytes of a firstBytes that kept n, behind a Write of m bytes src. -/
def wrote (f : Nat → Int) (n m : Nat) (src : Nat → Int) (j : Nat) : Int := if n ≤ j ∧ j < n + m then src (j - n) else f j

/-- The bytes that go over. -/
def over (n m : Nat) (src : Nat → Int) : List Value := (List.range (Nat.min m (1024 - n))).map fun j => Value.int .u8 (src j)
theorem over_length (n m : Nat) (src : Nat → Int) : (over n m src).length = Nat.min m (1024 - n) := by simp [over]
theorem over_get (n m : Nat) (src : Nat → Int) (j : Nat) : (over n m src)[j]? = if j < Nat.min m (1024 - n) then some (.int .u8 (src j)) else none := by
  unfold over
  rw [List.getElem?_map]
  by_cases h : j < Nat.min m (1024 - n)
  · rw [List.getElem?_range h, if_pos h]; rfl
  · rw [List.getElem?_eq_none (by simp; omega), if_neg h]; rfl
theorem over_one (n m : Nat) (src : Nat → Int) : ∀ v ∈ over n m src, v.oneCell' = true := by
  intro v hv
  simp only [over, List.mem_map] at hv
  obtain ⟨j, _, rfl⟩ := hv
  rfl
theorem over_src {w : World} {sp : Option Addr} {m : Nat} {src : Nat → Int} (n g : Nat) (h : Src w sp m src) (hp : 0 < (over n m src).length) :
    (some (if 1024 = n then (⟨g, 0, none⟩ : Addr) else ⟨g, n, none⟩)) = some ⟨g, n, none⟩ ∧ ∃ ad, sp = some ad ∧ ∀ j v, (over n m src)[j]? = some v → w.cell? (ad.add j) = some v := by
  rw [over_length] at hp
  have h2 : Nat.min m (1024 - n) ≤ m := Nat.min_le_left _ _
  have h3 : Nat.min m (1024 - n) ≤ 1024 - n := Nat.min_le_right _ _
  refine ⟨by rw [if_neg (by omega)], ?_⟩
  obtain ⟨b, off, rfl, hc⟩ := h (by omega)
  refine ⟨_, rfl, fun j v hv => ?_⟩
  rw [over_get] at hv
  by_cases hj : j < Nat.min m (1024 - n)
  · rw [if_pos hj] at hv
    have := hc j (by omega)
    simp only [Option.some.injEq] at hv
    rw [addr_add, ← hv, ← this]
  · rw [if_neg hj] at hv; cases hv

/-- The block behind the copy. -/
theorem over_row (f : Nat → Int) (k : Int) (n m : Nat) (src : Nat → Int) (hn : n ≤ 1024) :
    fbCells (wrote f n m src) k = ((fbCells f k).toList.take n ++ (over n m src ++ (fbCells f k).toList.drop (n + (over n m src).length))).toArray := by
  have h2 : Nat.min m (1024 - n) ≤ m := Nat.min_le_left _ _
  have h3 : Nat.min m (1024 - n) ≤ 1024 - n := Nat.min_le_right _ _
  have h4 : Nat.min m (1024 - n) = m ∨ Nat.min m (1024 - n) = 1024 - n := by rcases Nat.le_total m (1024 - n) with h | h <;> simp [h]
  apply Array.ext'
  apply List.ext_getElem?
  intro j
  simp only [List.getElem?_append, List.getElem?_take, List.getElem?_drop, List.length_take, Array.length_toList, over_length, over_get, Array.getElem?_toList, fbCells_size]
  rw [show min n 1025 = n by omega]
  by_cases hj : j < n
  · rw [if_pos hj, if_pos hj, fbCells_get (by omega), fbCells_get (by omega)]
    unfold wrote; rw [if_neg (by omega)]
  · rw [if_neg hj]
    by_cases hj2 : j - n < Nat.min m (1024 - n)
    · rw [if_pos hj2, if_pos hj2, fbCells_get (by omega)]
      unfold wrote; rw [if_pos (by omega)]
    · rw [if_neg hj2, show n + Nat.min m (1024 - n) + (j - n - Nat.min m (1024 - n)) = j by omega]
      by_cases hj3 : j < 1024
      · rw [fbCells_get hj3, fbCells_get hj3]
        unfold wrote; rw [if_neg (by omega)]
      · by_cases hj4 : j = 1024
        · subst hj4; rw [fbCells_n, fbCells_n]
        · rw [fbCells_out (by omega), fbCells_out (by omega)]
theorem over_fit (f : Nat → Int) (k : Int) (n m : Nat) (src : Nat → Int) (hn : n ≤ 1024) : n + (over n m src).length ≤ (fbCells f k).size := by
  have h3 : Nat.min m (1024 - n) ≤ 1024 - n := Nat.min_le_right _ _
  rw [over_length, fbCells_size]; omega
end Go.Proofs.Qxb6001331aMods
