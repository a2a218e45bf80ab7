/-
  No cell of these rows narrows 'for every input' (looked for: loops, veiled, ifaces, maps, wideKeys, modest, calm, conditions, laid).
  DERIVED. THE GIVEN ROWS OF THIS SEAT. 4 by the template 'for every input the law returns true; each argument reads behind the call as it read before'; 0 by the template 'total and deterministic' (their statements: Qxb6614646aTotals.lean).
  GIVEN WITH THE SEED: the statements are not yours to turn. If you find one false, say at which input.
  Laid BY PROGRAM, IN A SANDBOX (cutbox-rows.mjs): the forced cells as the released guide's own fill.sh prints them over the translation 69055b8eb71fe669… (all of the seat's roots in one cut). By AI agents, Wed Nov 11 2026. No macro, syntax, notation, axiom, sorry.
-/
import Derived.Test.Qxb6614646aChecked
import GoSem.Claim
import GoSem.ClaimJoined
import GoSem.ClaimMapViews
import Derived.JoinedTies
import Derived.KernelRfl
namespace Go.Proofs.Qxb6614646a
/- THE CELL 'sum', in the pinned program and in every row, IS THE sha256 OF THE DUMP (.gsa) THAT Qxb6614646aProg.lean LOADS. Nothing in Lean hashes anything: it is a label: what it is worth is what the hold of that sum in a sandbox is worth. -/
noncomputable def Try.pinned : Pinned := { name := "qxb6614646a", sum := "69055b8eb71fe669f89c56ae740c334da201f2ed594c7ba58f41f05cda0e8e48", checked := Try.checked }
namespace Rows
def none {H : Type} : Left H := { results := [], args := [] }

/-- 'zzlaws_root_b1.FnMakerNumberScript': WHATEVER THE INPUT: true; the input reads as it did. -/
def fnMakerNumberScriptSpec : ChangeSpec := { name := "fnMakerNumberScript", fn := fun _ => fun
  | [d] => { results := [.lit (.bool true)], args := [d] }
  | _ => none }
def fnMakerNumberScriptRow : OpenClaim := { program := "qxb6614646a", sum := "69055b8eb71fe669f89c56ae740c334da201f2ed594c7ba58f41f05cda0e8e48", func := "example.com/mortise/mortise/zzlaws_root_b1.FnMakerNumberScript", spec := "fnMakerNumberScript", inPlace := ["math.Float64bits", "math.Float64frombits"], apart := false }
def FnMakerNumberScriptSaid : Prop := fnMakerNumberScriptRow.holds Try.pinned (OpenSpec.ofChange fnMakerNumberScriptSpec)

/-- ITS FALSE NEIGHBOUR: 'it returns false'. Refute it at one input. -/
def fnMakerNumberScriptWrong : ChangeSpec := { name := "fnMakerNumberScript", fn := fun _ => fun
  | [d] => { results := [.lit (.bool false)], args := [d] }
  | _ => none }
def FnMakerNumberScriptWrongFalsely : Prop := fnMakerNumberScriptRow.holds Try.pinned (OpenSpec.ofChange fnMakerNumberScriptWrong)

/-- 'zzlaws_root_b1.FnMakerNumberCopyKeepsValues': WHATEVER THE INPUT: true; the input reads as it did. -/
def fnMakerNumberCopyKeepsValuesSpec : ChangeSpec := { name := "fnMakerNumberCopyKeepsValues", fn := fun _ => fun
  | [d1, d2, d3] => { results := [.lit (.bool true)], args := [d1, d2, d3] }
  | _ => none }
def fnMakerNumberCopyKeepsValuesRow : OpenClaim := { program := "qxb6614646a", sum := "69055b8eb71fe669f89c56ae740c334da201f2ed594c7ba58f41f05cda0e8e48", func := "example.com/mortise/mortise/zzlaws_root_b1.FnMakerNumberCopyKeepsValues", spec := "fnMakerNumberCopyKeepsValues", inPlace := ["math.Float64bits", "math.Float64frombits"], apart := false }
def FnMakerNumberCopyKeepsValuesSaid : Prop := fnMakerNumberCopyKeepsValuesRow.holds Try.pinned (OpenSpec.ofChange fnMakerNumberCopyKeepsValuesSpec)

/-- ITS FALSE NEIGHBOUR: 'it returns false'. Refute it at one input. -/
def fnMakerNumberCopyKeepsValuesWrong : ChangeSpec := { name := "fnMakerNumberCopyKeepsValues", fn := fun _ => fun
  | [d1, d2, d3] => { results := [.lit (.bool false)], args := [d1, d2, d3] }
  | _ => none }
def FnMakerNumberCopyKeepsValuesWrongFalsely : Prop := fnMakerNumberCopyKeepsValuesRow.holds Try.pinned (OpenSpec.ofChange fnMakerNumberCopyKeepsValuesWrong)

/-- 'zzlaws_root_b1.FnWithSecretScript': WHATEVER THE INPUT: true; the input reads as it did. -/
def fnWithSecretScriptSpec : ChangeSpec := { name := "fnWithSecretScript", fn := fun _ => fun
  | [d1, d2, d3] => { results := [.lit (.bool true)], args := [d1, d2, d3] }
  | _ => none }
def fnWithSecretScriptRow : OpenClaim := { program := "qxb6614646a", sum := "69055b8eb71fe669f89c56ae740c334da201f2ed594c7ba58f41f05cda0e8e48", func := "example.com/mortise/mortise/zzlaws_root_b1.FnWithSecretScript", spec := "fnWithSecretScript", inPlace := ["math.Float64bits", "math.Float64frombits"], apart := false }
def FnWithSecretScriptSaid : Prop := fnWithSecretScriptRow.holds Try.pinned (OpenSpec.ofChange fnWithSecretScriptSpec)

/-- ITS FALSE NEIGHBOUR: 'it returns false'. Refute it at one input. -/
def fnWithSecretScriptWrong : ChangeSpec := { name := "fnWithSecretScript", fn := fun _ => fun
  | [d1, d2, d3] => { results := [.lit (.bool false)], args := [d1, d2, d3] }
  | _ => none }
def FnWithSecretScriptWrongFalsely : Prop := fnWithSecretScriptRow.holds Try.pinned (OpenSpec.ofChange fnWithSecretScriptWrong)

/-- 'zzlaws_root_b1.FnWithSecretUndoGivesSameValue': WHATEVER THE INPUT: true; the input reads as it did. -/
def fnWithSecretUndoGivesSameValueSpec : ChangeSpec := { name := "fnWithSecretUndoGivesSameValue", fn := fun _ => fun
  | [d] => { results := [.lit (.bool true)], args := [d] }
  | _ => none }
def fnWithSecretUndoGivesSameValueRow : OpenClaim := { program := "qxb6614646a", sum := "69055b8eb71fe669f89c56ae740c334da201f2ed594c7ba58f41f05cda0e8e48", func := "example.com/mortise/mortise/zzlaws_root_b1.FnWithSecretUndoGivesSameValue", spec := "fnWithSecretUndoGivesSameValue", inPlace := ["math.Float64bits", "math.Float64frombits"], apart := false }
def FnWithSecretUndoGivesSameValueSaid : Prop := fnWithSecretUndoGivesSameValueRow.holds Try.pinned (OpenSpec.ofChange fnWithSecretUndoGivesSameValueSpec)

/-- ITS FALSE NEIGHBOUR: 'it returns false'. Refute it at one input. -/
def fnWithSecretUndoGivesSameValueWrong : ChangeSpec := { name := "fnWithSecretUndoGivesSameValue", fn := fun _ => fun
  | [d] => { results := [.lit (.bool false)], args := [d] }
  | _ => none }
def FnWithSecretUndoGivesSameValueWrongFalsely : Prop := fnWithSecretUndoGivesSameValueRow.holds Try.pinned (OpenSpec.ofChange fnWithSecretUndoGivesSameValueWrong)

end Rows
end Go.Proofs.Qxb6614646a
