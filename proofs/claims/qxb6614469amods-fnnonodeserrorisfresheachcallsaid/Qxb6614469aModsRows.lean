/-
  No cell of these rows narrows 'for every input' (looked for: loops, veiled, ifaces, maps, wideKeys, modest, calm, conditions, laid).
  DERIVED. THE GIVEN ROWS OF THIS SEAT. 1 by the template 'for every input the law returns true; each argument reads behind the call as it read before'; 0 by the template 'total and deterministic' (their statements: Qxb6614469aModsTotals.lean).
  GIVEN WITH THE SEED: the statements are not yours to turn. If you find one false, say at which input.
  Laid BY PROGRAM, IN A SANDBOX (cutbox-rows.mjs): the forced cells as the released guide's own fill.sh prints them over the translation ecfd79dd62d2ff98… (all of the seat's roots in one cut). By AI agents, Wed Nov 11 2026. No macro, syntax, notation, axiom, sorry.
-/
import Derived.Test.Qxb6614469aModsChecked
import GoSem.Claim
import GoSem.ClaimJoined
import GoSem.ClaimMapViews
import Derived.JoinedTies
import Derived.KernelRfl
namespace Go.Proofs.Qxb6614469aMods
/- THE CELL 'sum', in the pinned program and in every row, IS THE sha256 OF THE DUMP (.gsa) THAT Qxb6614469aModsProg.lean LOADS. Nothing in Lean hashes anything: it is a label: what it is worth is what the hold of that sum in a sandbox is worth. -/
noncomputable def Trym.pinned : Pinned := { name := "qxb6614469amods", sum := "ecfd79dd62d2ff98866aeb694bea3e7539df4a9551a265ba076a04574fcaf5d6", checked := Trym.checked }
namespace Rows
def none {H : Type} : Left H := { results := [], args := [] }

/-- 'zzlaws_root_b1.FnNoNodesErrorIsFreshEachCall': WHATEVER THE INPUT: true; the input reads as it did. -/
def fnNoNodesErrorIsFreshEachCallSpec : ChangeSpec := { name := "fnNoNodesErrorIsFreshEachCall", fn := fun _ => fun
  | [d1, d2] => { results := [.lit (.bool true)], args := [d1, d2] }
  | _ => none }
def fnNoNodesErrorIsFreshEachCallRow : OpenClaim := { program := "qxb6614469amods", sum := "ecfd79dd62d2ff98866aeb694bea3e7539df4a9551a265ba076a04574fcaf5d6", func := "example.com/steady-ring/steady-ring/zzlaws_root_b1.FnNoNodesErrorIsFreshEachCall", spec := "fnNoNodesErrorIsFreshEachCall", make := .lifted ["publicsums"], apart := false }
def FnNoNodesErrorIsFreshEachCallSaid : Prop := fnNoNodesErrorIsFreshEachCallRow.holds Trym.pinned (OpenSpec.ofChange fnNoNodesErrorIsFreshEachCallSpec)

/-- ITS FALSE NEIGHBOUR: 'it returns false'. Refute it at one input. -/
def fnNoNodesErrorIsFreshEachCallWrong : ChangeSpec := { name := "fnNoNodesErrorIsFreshEachCall", fn := fun _ => fun
  | [d1, d2] => { results := [.lit (.bool false)], args := [d1, d2] }
  | _ => none }
def FnNoNodesErrorIsFreshEachCallWrongFalsely : Prop := fnNoNodesErrorIsFreshEachCallRow.holds Trym.pinned (OpenSpec.ofChange fnNoNodesErrorIsFreshEachCallWrong)

end Rows
end Go.Proofs.Qxb6614469aMods
