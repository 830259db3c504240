/-
  No cell of these rows narrows 'for every input' (looked for: loops, veiled, ifaces, maps, wideKeys, modest, calm, conditions, laid).
  DERIVED. THE GIVEN ROWS OF THIS SEAT. 3 by the template 'for every input the law returns true; each argument reads behind the call as it read before'; 0 by the template 'total and deterministic' (their statements: Qxb6603753aModsTotals.lean).
  GIVEN WITH THE SEED: the statements are not yours to turn. If you find one false, say at which input.
  Laid BY PROGRAM, IN A SANDBOX (cutbox-rows.mjs): the forced cells as the released guide's own fill.sh prints them over the translation 2550a694cf5290c4… (all of the seat's roots in one cut). By AI agents, Wed Nov 11 2026. No macro, syntax, notation, axiom, sorry.
-/
import Derived.Test.Qxb6603753aModsChecked
import GoSem.Claim
import GoSem.ClaimJoined
import GoSem.ClaimMapViews
import Derived.JoinedTies
import Derived.KernelRfl
namespace Go.Proofs.Qxb6603753aMods
/- THE CELL 'sum', in the pinned program and in every row, IS THE sha256 OF THE DUMP (.gsa) THAT Qxb6603753aModsProg.lean LOADS. Nothing in Lean hashes anything: it is a label: what it is worth is what the hold of that sum in a sandbox is worth. -/
noncomputable def Trym.pinned : Pinned := { name := "qxb6603753amods", sum := "2550a694cf5290c4a87d9ea2b6312e11e0ac9dc9a60feb846dc7305bbac8803c", checked := Trym.checked }
namespace Rows
def none {H : Type} : Left H := { results := [], args := [] }

/-- 'zzlaws_internal_jsonvalue_b1.FnU4ReadsBackEveryEscape': WHATEVER THE INPUT: true; the input reads as it did. -/
def fnU4ReadsBackEveryEscapeSpec : ChangeSpec := { name := "fnU4ReadsBackEveryEscape", fn := fun _ => fun
  | [d1, d2, d3] => { results := [.lit (.bool true)], args := [d1, d2, d3] }
  | _ => none }
def fnU4ReadsBackEveryEscapeRow : OpenClaim := { program := "qxb6603753amods", sum := "2550a694cf5290c4a87d9ea2b6312e11e0ac9dc9a60feb846dc7305bbac8803c", func := "example.com/tidemark/tidemark/zzlaws_internal_jsonvalue_b1.FnU4ReadsBackEveryEscape", spec := "fnU4ReadsBackEveryEscape", make := .lifted ["publicsums"], apart := false }
def FnU4ReadsBackEveryEscapeSaid : Prop := fnU4ReadsBackEveryEscapeRow.holds Trym.pinned (OpenSpec.ofChange fnU4ReadsBackEveryEscapeSpec)

/-- ITS FALSE NEIGHBOUR: 'it returns false'. Refute it at one input. -/
def fnU4ReadsBackEveryEscapeWrong : ChangeSpec := { name := "fnU4ReadsBackEveryEscape", fn := fun _ => fun
  | [d1, d2, d3] => { results := [.lit (.bool false)], args := [d1, d2, d3] }
  | _ => none }
def FnU4ReadsBackEveryEscapeWrongFalsely : Prop := fnU4ReadsBackEveryEscapeRow.holds Trym.pinned (OpenSpec.ofChange fnU4ReadsBackEveryEscapeWrong)

/-- 'zzlaws_internal_jsonvalue_b1.FnAddOneStepsByExactlyOne': WHATEVER THE INPUT: true; the input reads as it did. -/
def fnAddOneStepsByExactlyOneSpec : ChangeSpec := { name := "fnAddOneStepsByExactlyOne", fn := fun _ => fun
  | [d1, d2] => { results := [.lit (.bool true)], args := [d1, d2] }
  | _ => none }
def fnAddOneStepsByExactlyOneRow : OpenClaim := { program := "qxb6603753amods", sum := "2550a694cf5290c4a87d9ea2b6312e11e0ac9dc9a60feb846dc7305bbac8803c", func := "example.com/tidemark/tidemark/zzlaws_internal_jsonvalue_b1.FnAddOneStepsByExactlyOne", spec := "fnAddOneStepsByExactlyOne", make := .lifted ["publicsums"], apart := false }
def FnAddOneStepsByExactlyOneSaid : Prop := fnAddOneStepsByExactlyOneRow.holds Trym.pinned (OpenSpec.ofChange fnAddOneStepsByExactlyOneSpec)

/-- ITS FALSE NEIGHBOUR: 'it returns false'. Refute it at one input. -/
def fnAddOneStepsByExactlyOneWrong : ChangeSpec := { name := "fnAddOneStepsByExactlyOne", fn := fun _ => fun
  | [d1, d2] => { results := [.lit (.bool false)], args := [d1, d2] }
  | _ => none }
def FnAddOneStepsByExactlyOneWrongFalsely : Prop := fnAddOneStepsByExactlyOneRow.holds Trym.pinned (OpenSpec.ofChange fnAddOneStepsByExactlyOneWrong)

/-- 'zzlaws_internal_jsonvalue_b1.FnAddOneUpAndDownUndoEachOther': WHATEVER THE INPUT: true; the input reads as it did. -/
def fnAddOneUpAndDownUndoEachOtherSpec : ChangeSpec := { name := "fnAddOneUpAndDownUndoEachOther", fn := fun _ => fun
  | [d] => { results := [.lit (.bool true)], args := [d] }
  | _ => none }
def fnAddOneUpAndDownUndoEachOtherRow : OpenClaim := { program := "qxb6603753amods", sum := "2550a694cf5290c4a87d9ea2b6312e11e0ac9dc9a60feb846dc7305bbac8803c", func := "example.com/tidemark/tidemark/zzlaws_internal_jsonvalue_b1.FnAddOneUpAndDownUndoEachOther", spec := "fnAddOneUpAndDownUndoEachOther", make := .lifted ["publicsums"], apart := false }
def FnAddOneUpAndDownUndoEachOtherSaid : Prop := fnAddOneUpAndDownUndoEachOtherRow.holds Trym.pinned (OpenSpec.ofChange fnAddOneUpAndDownUndoEachOtherSpec)

/-- ITS FALSE NEIGHBOUR: 'it returns false'. Refute it at one input. -/
def fnAddOneUpAndDownUndoEachOtherWrong : ChangeSpec := { name := "fnAddOneUpAndDownUndoEachOther", fn := fun _ => fun
  | [d] => { results := [.lit (.bool false)], args := [d] }
  | _ => none }
def FnAddOneUpAndDownUndoEachOtherWrongFalsely : Prop := fnAddOneUpAndDownUndoEachOtherRow.holds Trym.pinned (OpenSpec.ofChange fnAddOneUpAndDownUndoEachOtherWrong)

end Rows
end Go.Proofs.Qxb6603753aMods
