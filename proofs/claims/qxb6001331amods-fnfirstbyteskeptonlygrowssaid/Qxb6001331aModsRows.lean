/-
  No cell of these rows narrows 'for every input' (looked for: loops, veiled, ifaces, maps, wideKeys, modest, calm, conditions, laid).
  DERIVED. THE GIVEN ROWS OF THIS SEAT. 3 by the template 'for every input the law returns true; each argument reads behind the call as it read before'; 0 by the template 'total and deterministic' (their statements: Qxb6001331aModsTotals.lean).
  GIVEN WITH THE SEED: the statements are not yours to turn. If you find one false, say at which input.
  Laid BY PROGRAM, IN A SANDBOX (cutbox-rows.mjs): the forced cells as the released guide's own fill.sh prints them over the translation 23ea8e7fadaad491… (all of the seat's roots in one cut). By AI agents, Wed Nov 11 2026. No macro, syntax, notation, axiom, sorry.
-/
import Derived.Test.Qxb6001331aModsChecked
import GoSem.Claim
import GoSem.ClaimJoined
import GoSem.ClaimMapViews
import Derived.JoinedTies
import Derived.KernelRfl
namespace Go.Proofs.Qxb6001331aMods
/- THE CELL 'sum', in the pinned program and in every row, IS THE sha256 OF THE DUMP (.gsa) THAT Qxb6001331aModsProg.lean LOADS. Nothing in Lean hashes anything: it is a label: what it is worth is what the hold of that sum in a sandbox is worth. -/
noncomputable def Trym.pinned : Pinned := { name := "qxb6001331amods", sum := "23ea8e7fadaad4915a78c8573292e57242b9480ed47b6bac9839b099c9ff540a", checked := Trym.checked }
namespace Rows
def none {H : Type} : Left H := { results := [], args := [] }

/-- 'zzlaws_recording_e1.FnFirstBytesKeepsPrefixOfConcatenation': WHATEVER THE INPUT: true; the input reads as it did. -/
def fnFirstBytesKeepsPrefixOfConcatenationSpec : ChangeSpec := { name := "fnFirstBytesKeepsPrefixOfConcatenation", fn := fun _ => fun
  | [d1, d2, d3] => { results := [.lit (.bool true)], args := [d1, d2, d3] }
  | _ => none }
def fnFirstBytesKeepsPrefixOfConcatenationRow : OpenClaim := { program := "qxb6001331amods", sum := "23ea8e7fadaad4915a78c8573292e57242b9480ed47b6bac9839b099c9ff540a", func := "example.com/capture-to-cipher/capture-to-cipher/zzlaws_recording_e1.FnFirstBytesKeepsPrefixOfConcatenation", spec := "fnFirstBytesKeepsPrefixOfConcatenation", make := .lifted ["publicsums"], apart := false }
def FnFirstBytesKeepsPrefixOfConcatenationSaid : Prop := fnFirstBytesKeepsPrefixOfConcatenationRow.holds Trym.pinned (OpenSpec.ofChange fnFirstBytesKeepsPrefixOfConcatenationSpec)

/-- ITS FALSE NEIGHBOUR: 'it returns false'. Refute it at one input. -/
def fnFirstBytesKeepsPrefixOfConcatenationWrong : ChangeSpec := { name := "fnFirstBytesKeepsPrefixOfConcatenation", fn := fun _ => fun
  | [d1, d2, d3] => { results := [.lit (.bool false)], args := [d1, d2, d3] }
  | _ => none }
def FnFirstBytesKeepsPrefixOfConcatenationWrongFalsely : Prop := fnFirstBytesKeepsPrefixOfConcatenationRow.holds Trym.pinned (OpenSpec.ofChange fnFirstBytesKeepsPrefixOfConcatenationWrong)

/-- 'zzlaws_recording_e1.FnFirstBytesChunkingDoesNotMatter': WHATEVER THE INPUT: true; the input reads as it did. -/
def fnFirstBytesChunkingDoesNotMatterSpec : ChangeSpec := { name := "fnFirstBytesChunkingDoesNotMatter", fn := fun _ => fun
  | [d1, d2] => { results := [.lit (.bool true)], args := [d1, d2] }
  | _ => none }
def fnFirstBytesChunkingDoesNotMatterRow : OpenClaim := { program := "qxb6001331amods", sum := "23ea8e7fadaad4915a78c8573292e57242b9480ed47b6bac9839b099c9ff540a", func := "example.com/capture-to-cipher/capture-to-cipher/zzlaws_recording_e1.FnFirstBytesChunkingDoesNotMatter", spec := "fnFirstBytesChunkingDoesNotMatter", make := .lifted ["publicsums"], apart := false }
def FnFirstBytesChunkingDoesNotMatterSaid : Prop := fnFirstBytesChunkingDoesNotMatterRow.holds Trym.pinned (OpenSpec.ofChange fnFirstBytesChunkingDoesNotMatterSpec)

/-- ITS FALSE NEIGHBOUR: 'it returns false'. Refute it at one input. -/
def fnFirstBytesChunkingDoesNotMatterWrong : ChangeSpec := { name := "fnFirstBytesChunkingDoesNotMatter", fn := fun _ => fun
  | [d1, d2] => { results := [.lit (.bool false)], args := [d1, d2] }
  | _ => none }
def FnFirstBytesChunkingDoesNotMatterWrongFalsely : Prop := fnFirstBytesChunkingDoesNotMatterRow.holds Trym.pinned (OpenSpec.ofChange fnFirstBytesChunkingDoesNotMatterWrong)

/-- 'zzlaws_recording_e1.FnFirstBytesKeptOnlyGrows': WHATEVER THE INPUT: true; the input reads as it did. -/
def fnFirstBytesKeptOnlyGrowsSpec : ChangeSpec := { name := "fnFirstBytesKeptOnlyGrows", fn := fun _ => fun
  | [d1, d2] => { results := [.lit (.bool true)], args := [d1, d2] }
  | _ => none }
def fnFirstBytesKeptOnlyGrowsRow : OpenClaim := { program := "qxb6001331amods", sum := "23ea8e7fadaad4915a78c8573292e57242b9480ed47b6bac9839b099c9ff540a", func := "example.com/capture-to-cipher/capture-to-cipher/zzlaws_recording_e1.FnFirstBytesKeptOnlyGrows", spec := "fnFirstBytesKeptOnlyGrows", make := .lifted ["publicsums"], apart := false }
def FnFirstBytesKeptOnlyGrowsSaid : Prop := fnFirstBytesKeptOnlyGrowsRow.holds Trym.pinned (OpenSpec.ofChange fnFirstBytesKeptOnlyGrowsSpec)

/-- ITS FALSE NEIGHBOUR: 'it returns false'. Refute it at one input. -/
def fnFirstBytesKeptOnlyGrowsWrong : ChangeSpec := { name := "fnFirstBytesKeptOnlyGrows", fn := fun _ => fun
  | [d1, d2] => { results := [.lit (.bool false)], args := [d1, d2] }
  | _ => none }
def FnFirstBytesKeptOnlyGrowsWrongFalsely : Prop := fnFirstBytesKeptOnlyGrowsRow.holds Trym.pinned (OpenSpec.ofChange fnFirstBytesKeptOnlyGrowsWrong)

end Rows
end Go.Proofs.Qxb6001331aMods
