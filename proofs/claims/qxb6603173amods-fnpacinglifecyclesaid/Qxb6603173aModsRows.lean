/-
  No cell of these rows narrows 'for every input' (looked for: loops, veiled, ifaces, maps, wideKeys, modest, calm, conditions, laid).
  DERIVED. THE GIVEN ROWS OF THIS SEAT. 5 by the template 'for every input the law returns true; each argument reads behind the call as it read before'; 0 by the template 'total and deterministic' (their statements: Qxb6603173aModsTotals.lean).
  GIVEN WITH THE SEED: the statements are not yours to turn. If you find one false, say at which input.
  Laid BY PROGRAM, IN A SANDBOX (cutbox-rows.mjs): the forced cells as the released guide's own fill.sh prints them over the translation 6408960d864476e3… (all of the seat's roots in one cut). By AI agents, Wed Nov 11 2026. No macro, syntax, notation, axiom, sorry.
-/
import Derived.Test.Qxb6603173aModsChecked
import GoSem.Claim
import GoSem.ClaimJoined
import GoSem.ClaimMapViews
import Derived.JoinedTies
import Derived.KernelRfl
namespace Go.Proofs.Qxb6603173aMods
/- THE CELL 'sum', in the pinned program and in every row, IS THE sha256 OF THE DUMP (.gsa) THAT Qxb6603173aModsProg.lean LOADS. Nothing in Lean hashes anything: it is a label: what it is worth is what the hold of that sum in a sandbox is worth. -/
noncomputable def Trym.pinned : Pinned := { name := "qxb6603173amods", sum := "6408960d864476e329dde4b67f0d19203e366304a4b13ca685703af04026bf4e", checked := Trym.checked }
namespace Rows
def none {H : Type} : Left H := { results := [], args := [] }

/-- 'zzlaws_root_b1.FnAfterAheadTwoEmptiedStartPacing': WHATEVER THE INPUT: true; the input reads as it did. -/
def fnAfterAheadTwoEmptiedStartPacingSpec : ChangeSpec := { name := "fnAfterAheadTwoEmptiedStartPacing", fn := fun _ => fun
  | [d] => { results := [.lit (.bool true)], args := [d] }
  | _ => none }
def fnAfterAheadTwoEmptiedStartPacingRow : OpenClaim := { program := "qxb6603173amods", sum := "6408960d864476e329dde4b67f0d19203e366304a4b13ca685703af04026bf4e", func := "example.com/rebound/rebound/zzlaws_root_b1.FnAfterAheadTwoEmptiedStartPacing", spec := "fnAfterAheadTwoEmptiedStartPacing", make := .lifted ["publicsums"], apart := false }
def FnAfterAheadTwoEmptiedStartPacingSaid : Prop := fnAfterAheadTwoEmptiedStartPacingRow.holds Trym.pinned (OpenSpec.ofChange fnAfterAheadTwoEmptiedStartPacingSpec)

/-- ITS FALSE NEIGHBOUR: 'it returns false'. Refute it at one input. -/
def fnAfterAheadTwoEmptiedStartPacingWrong : ChangeSpec := { name := "fnAfterAheadTwoEmptiedStartPacing", fn := fun _ => fun
  | [d] => { results := [.lit (.bool false)], args := [d] }
  | _ => none }
def FnAfterAheadTwoEmptiedStartPacingWrongFalsely : Prop := fnAfterAheadTwoEmptiedStartPacingRow.holds Trym.pinned (OpenSpec.ofChange fnAfterAheadTwoEmptiedStartPacingWrong)

/-- 'zzlaws_root_b1.FnAfterFrameCountsDown': WHATEVER THE INPUT: true; the input reads as it did. -/
def fnAfterFrameCountsDownSpec : ChangeSpec := { name := "fnAfterFrameCountsDown", fn := fun _ => fun
  | [d1, d2] => { results := [.lit (.bool true)], args := [d1, d2] }
  | _ => none }
def fnAfterFrameCountsDownRow : OpenClaim := { program := "qxb6603173amods", sum := "6408960d864476e329dde4b67f0d19203e366304a4b13ca685703af04026bf4e", func := "example.com/rebound/rebound/zzlaws_root_b1.FnAfterFrameCountsDown", spec := "fnAfterFrameCountsDown", make := .lifted ["publicsums"], apart := false }
def FnAfterFrameCountsDownSaid : Prop := fnAfterFrameCountsDownRow.holds Trym.pinned (OpenSpec.ofChange fnAfterFrameCountsDownSpec)

/-- ITS FALSE NEIGHBOUR: 'it returns false'. Refute it at one input. -/
def fnAfterFrameCountsDownWrong : ChangeSpec := { name := "fnAfterFrameCountsDown", fn := fun _ => fun
  | [d1, d2] => { results := [.lit (.bool false)], args := [d1, d2] }
  | _ => none }
def FnAfterFrameCountsDownWrongFalsely : Prop := fnAfterFrameCountsDownRow.holds Trym.pinned (OpenSpec.ofChange fnAfterFrameCountsDownWrong)

/-- 'zzlaws_root_b1.FnPacingLifecycle': WHATEVER THE INPUT: true; the input reads as it did. -/
def fnPacingLifecycleSpec : ChangeSpec := { name := "fnPacingLifecycle", fn := fun _ => fun
  | [d1, d2, d3, d4, d5] => { results := [.lit (.bool true)], args := [d1, d2, d3, d4, d5] }
  | _ => none }
def fnPacingLifecycleRow : OpenClaim := { program := "qxb6603173amods", sum := "6408960d864476e329dde4b67f0d19203e366304a4b13ca685703af04026bf4e", func := "example.com/rebound/rebound/zzlaws_root_b1.FnPacingLifecycle", spec := "fnPacingLifecycle", make := .lifted ["publicsums"], apart := false }
def FnPacingLifecycleSaid : Prop := fnPacingLifecycleRow.holds Trym.pinned (OpenSpec.ofChange fnPacingLifecycleSpec)

/-- ITS FALSE NEIGHBOUR: 'it returns false'. Refute it at one input. -/
def fnPacingLifecycleWrong : ChangeSpec := { name := "fnPacingLifecycle", fn := fun _ => fun
  | [d1, d2, d3, d4, d5] => { results := [.lit (.bool false)], args := [d1, d2, d3, d4, d5] }
  | _ => none }
def FnPacingLifecycleWrongFalsely : Prop := fnPacingLifecycleRow.holds Trym.pinned (OpenSpec.ofChange fnPacingLifecycleWrong)

/-- 'zzlaws_root_b1.FnGrownPrefixThenZeros': WHATEVER THE INPUT: true; the input reads as it did. -/
def fnGrownPrefixThenZerosSpec : ChangeSpec := { name := "fnGrownPrefixThenZeros", fn := fun _ => fun
  | [d1, d2, d3] => { results := [.lit (.bool true)], args := [d1, d2, d3] }
  | _ => none }
def fnGrownPrefixThenZerosRow : OpenClaim := { program := "qxb6603173amods", sum := "6408960d864476e329dde4b67f0d19203e366304a4b13ca685703af04026bf4e", func := "example.com/rebound/rebound/zzlaws_root_b1.FnGrownPrefixThenZeros", spec := "fnGrownPrefixThenZeros", make := .lifted ["publicsums"], apart := false }
def FnGrownPrefixThenZerosSaid : Prop := fnGrownPrefixThenZerosRow.holds Trym.pinned (OpenSpec.ofChange fnGrownPrefixThenZerosSpec)

/-- ITS FALSE NEIGHBOUR: 'it returns false'. Refute it at one input. -/
def fnGrownPrefixThenZerosWrong : ChangeSpec := { name := "fnGrownPrefixThenZeros", fn := fun _ => fun
  | [d1, d2, d3] => { results := [.lit (.bool false)], args := [d1, d2, d3] }
  | _ => none }
def FnGrownPrefixThenZerosWrongFalsely : Prop := fnGrownPrefixThenZerosRow.holds Trym.pinned (OpenSpec.ofChange fnGrownPrefixThenZerosWrong)

/-- 'zzlaws_root_b1.FnGrownReusesRoomExactly': WHATEVER THE INPUT: true; the input reads as it did. -/
def fnGrownReusesRoomExactlySpec : ChangeSpec := { name := "fnGrownReusesRoomExactly", fn := fun _ => fun
  | [d1, d2, d3] => { results := [.lit (.bool true)], args := [d1, d2, d3] }
  | _ => none }
def fnGrownReusesRoomExactlyRow : OpenClaim := { program := "qxb6603173amods", sum := "6408960d864476e329dde4b67f0d19203e366304a4b13ca685703af04026bf4e", func := "example.com/rebound/rebound/zzlaws_root_b1.FnGrownReusesRoomExactly", spec := "fnGrownReusesRoomExactly", make := .lifted ["publicsums"], apart := false }
def FnGrownReusesRoomExactlySaid : Prop := fnGrownReusesRoomExactlyRow.holds Trym.pinned (OpenSpec.ofChange fnGrownReusesRoomExactlySpec)

/-- ITS FALSE NEIGHBOUR: 'it returns false'. Refute it at one input. -/
def fnGrownReusesRoomExactlyWrong : ChangeSpec := { name := "fnGrownReusesRoomExactly", fn := fun _ => fun
  | [d1, d2, d3] => { results := [.lit (.bool false)], args := [d1, d2, d3] }
  | _ => none }
def FnGrownReusesRoomExactlyWrongFalsely : Prop := fnGrownReusesRoomExactlyRow.holds Trym.pinned (OpenSpec.ofChange fnGrownReusesRoomExactlyWrong)

end Rows
end Go.Proofs.Qxb6603173aMods
