/-
  A PROOF OF 'Rows.FnNoNodesErrorIsFreshEachCallSaid'. The frame (lifted, over, proved) is the kit's template at this function; the walk is typed by hand.
-/
import Derived.Test.Qxb6614469aModsRows
import Derived.WalkKit
import Derived.ProofKit
import Derived.OpenShut
import Derived.ShutString
import Derived.LaidEqlPtr
namespace Go.Proofs.Qxb6614469aMods.fnNoNodesErrorIsFreshEachCall
open Go.ChangeShapes Go.WideShapes Go.ChangeAt Go.RowKit
open Go.ChangeMaps (open_string shut_string)
set_option linter.unusedVariables false      -- a walk need not use every 'w<i>' (that an integer argument fits its kind)

theorem own : ownKnob Trym.prog.godebug = none := by kernel_rfl

theorem size26 : (Trym.prog.info? 26).map (fun i => decide (i.size ≠ 0)) = some true := by kernel_rfl

/-- Two pointers to the starts of two new blocks are not equal. -/
theorem eql_fresh (w : World) (c1 c2 : Array Value) :
    (binOp .eql 23 (.pointer (some ⟨w.heap.size + 1, 0, none⟩)) (.pointer (some ⟨w.heap.size, 0, none⟩))).run Trym.prog ((w.alloc (.cells c1 26)).alloc (.cells c2 26))
      = .ok (.bool false) ((w.alloc (.cells c1 26)).alloc (.cells c2 26)) := by
  obtain ⟨j, hj, hjs⟩ := Option.map_eq_some_iff.1 size26
  refine run_eql_ptr_other (ca := c2) (cb := c1) (ta := 26) (tb := 26) _ Trym.underlying23 hj (of_decide_eq_true hjs) (by simp) ?_ ?_
  · have h := heap_alloc_new (w.alloc (.cells c1 26)) (.cells c2 26)
    rwa [show (w.alloc (.cells c1 26)).heap.size = w.heap.size + 1 by simp] at h
  · show ((w.alloc (.cells c1 26)).alloc (.cells c2 26)).heap[w.heap.size]? = _
    rw [heap_alloc_old _ _ (by simp), heap_alloc_new]

/-! ### STEP 1: THE WALK: the Go text returns true. -/
theorem walk (a0 : Int) (a1 : ByteArray) (w0 : (Lit.int .i64 a0).wf = true) (w1 : a1.size ≤ maxLen) (w : World) :
    Calls Trym.prog 3 #[.int .i64 a0, .string a1] w fun e w' => e = .returned (.bool true) ∧ Grown w w' := by
  have he := eql_fresh w
  go_enter Trym.func3, Trym.ntmps3
  go_wp2
  all_goals go_ret
  · exact ⟨rfl, Grown.refl _⟩
  · exact ⟨rfl, by repeat (first | exact Grown.refl _ | apply Grown.drew | apply Grown.alloc)⟩

/-! ### THE ROW's STEP: WRITTEN OUT: LEAVE IT -/
set_option maxRecDepth 100000 in
theorem lifted (os : Os) (started : os.Started) (H : Type) (enc : TypeId × Value → H) :
    ReturnsInHanded {} Trym.checked os 3 .any (Rows.fnNoNodesErrorIsFreshEachCallSpec.pre6 enc Trym.prog Trym.f3 Rows.fnNoNodesErrorIsFreshEachCallRow.domain false) (Rows.fnNoNodesErrorIsFreshEachCallSpec.post enc Trym.prog Trym.f3 false true false false) := by
  refine returnsInHanded_of_change (C := Trym.checked) own started (by kernel_rfl) Trym.func3
    (ChangeSpec.witness6 (enc := enc) (C := Trym.checked) false ⟨#[], #[.int .i64 0, .string ByteArray.empty], []⟩ 8 (by kernel_rfl) (by kernel_rfl) (by kernel_rfl) (by kernel_rfl)) ?_
  intro W base args ds gs before hval0 hW hcnd _
  have hval : ∀ (j : Nat) t v, Trym.f3.params[j]? = some t → args[j]? = some v → Value.okWide Trym.prog W .any base t v := hval0
  have hW' := hW
  obtain ⟨p, q, hA0, hV, rfl, hfz, hnd⟩ := hW
  have hA : DataW.TrodAll enc Trym.prog W 0 (fun _ => true) true Trym.f3.params.toList args.toList ds p := hA0
  rw [Trym.params3] at hA hval
  obtain ⟨v0, vs0, d0, ds0, p0, q0, hargs, rfl, rfl, h0, r0⟩ := trodAll_cons hA
  obtain ⟨v1, vs1, d1, ds1, p1, q1, rfl, rfl, rfl, h1, r1⟩ := trodAll_cons r0
  obtain ⟨rfl, rfl, rfl⟩ := trodAll_nil r1
  obtain rfl : args = #[v0, v1] := by cases args; simp_all
  obtain ⟨rfl, rfl⟩ := trodVars_none hV
  obtain ⟨a0, rfl, rfl, rfl, w0⟩ := open_int Trym.underlying3 (hval 0 3 v0 rfl rfl) h0
  obtain ⟨a1, rfl, rfl, rfl, w1⟩ := open_string Trym.underlying9 (hval 1 9 v1 rfl rfl) h1
  clear hA0 hval0
  simp only [List.append_nil] at hW'
  refine (walk a0 a1 w0 w1 W).mono fun e W' ⟨he, hg⟩ => ?_
  subst he
  exact ⟨_, rfl, post_of_same (pa := []) (pv := []) hW' (fun _ _ _ => (trodAll_cons_mk (shut_bool Trym.underlying4 _) trodAll_mk0)) (fun sp _ => (trodAll_cons_mk (shut_int Trym.underlying3 w0) (trodAll_cons_mk (shut_string Trym.underlying9 w1) trodAll_mk0))) (fun _ _ => rfl) rfl
    (hg.frame _) hg.2.1 (ok_one (by kernel_rfl) rfl (okWide_bool_mk Trym.underlying4 _))⟩

theorem over : Rows.fnNoNodesErrorIsFreshEachCallRow.holds Trym.pinned (OpenSpec.ofChange Rows.fnNoNodesErrorIsFreshEachCallSpec) :=
  OpenClaim.holds_of_wide 3 Trym.f3 rfl rfl rfl rfl rfl rfl rfl ⟨rfl, rfl, rfl, rfl, rfl⟩ rfl rfl rfl rfl rfl (by kernel_rfl) Trym.func3 (by kernel_rfl)
    (of_decide_eq_true (by kernel_rfl)) (by unfold Func.isWrapper; first | (rw [if_pos (by decide +kernel)]; kernel_rfl) | (rw [if_neg (by decide +kernel)]; exact ⟨rfl, rfl⟩))
    (fun os started H enc _ => lifted os started H enc)

/-- ████ THE STATEMENT ████ -/
theorem proved : Rows.FnNoNodesErrorIsFreshEachCallSaid :=
  over
end Go.Proofs.Qxb6614469aMods.fnNoNodesErrorIsFreshEachCall
