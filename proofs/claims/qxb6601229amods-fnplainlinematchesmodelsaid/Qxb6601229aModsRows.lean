/-
  No cell of these rows narrows 'for every input' (looked for: loops, veiled, ifaces, maps, wideKeys, modest, calm, conditions, laid).
  DERIVED. THE GIVEN ROWS OF THIS SEAT. 5 by the template 'for every input the law returns true; each argument reads behind the call as it read before'; 0 by the template 'total and deterministic' (their statements: Qxb6601229aModsTotals.lean).
  GIVEN WITH THE SEED: the statements are not yours to turn. If you find one false, say at which input.
  Laid BY PROGRAM, IN A SANDBOX (cutbox-rows.mjs): the forced cells as the released guide's own fill.sh prints them over the translation 24c56ec00433e530… (all of the seat's roots in one cut). By AI agents, Wed Nov 11 2026. No macro, syntax, notation, axiom, sorry.
-/
import Derived.Test.Qxb6601229aModsChecked
import GoSem.Claim
import GoSem.ClaimJoined
import GoSem.ClaimMapViews
import Derived.JoinedTies
import Derived.KernelRfl
namespace Go.Proofs.Qxb6601229aMods
/- THE CELL 'sum', in the pinned program and in every row, IS THE sha256 OF THE DUMP (.gsa) THAT Qxb6601229aModsProg.lean LOADS. Nothing in Lean hashes anything: it is a label: what it is worth is what the hold of that sum in a sandbox is worth. -/
noncomputable def Trym.pinned : Pinned := { name := "qxb6601229amods", sum := "24c56ec00433e530f50ad47f684a7a336c1b72be0d89529e84cee6bf742807c4", checked := Trym.checked }
namespace Rows
def none {H : Type} : Left H := { results := [], args := [] }

/-- 'zzlaws_root_b1.FnHexValueMatchesModel': WHATEVER THE INPUT: true; the input reads as it did. -/
def fnHexValueMatchesModelSpec : ChangeSpec := { name := "fnHexValueMatchesModel", fn := fun _ => fun
  | [d1, d2] => { results := [.lit (.bool true)], args := [d1, d2] }
  | _ => none }
def fnHexValueMatchesModelRow : OpenClaim := { program := "qxb6601229amods", sum := "24c56ec00433e530f50ad47f684a7a336c1b72be0d89529e84cee6bf742807c4", func := "example.com/layered-config/layered-config/zzlaws_root_b1.FnHexValueMatchesModel", spec := "fnHexValueMatchesModel", make := .lifted ["publicsums"], apart := false }
def FnHexValueMatchesModelSaid : Prop := fnHexValueMatchesModelRow.holds Trym.pinned (OpenSpec.ofChange fnHexValueMatchesModelSpec)

/-- ITS FALSE NEIGHBOUR: 'it returns false'. Refute it at one input. -/
def fnHexValueMatchesModelWrong : ChangeSpec := { name := "fnHexValueMatchesModel", fn := fun _ => fun
  | [d1, d2] => { results := [.lit (.bool false)], args := [d1, d2] }
  | _ => none }
def FnHexValueMatchesModelWrongFalsely : Prop := fnHexValueMatchesModelRow.holds Trym.pinned (OpenSpec.ofChange fnHexValueMatchesModelWrong)

/-- 'zzlaws_root_b1.FnHexValueReadsBackWhatWasWritten': WHATEVER THE INPUT: true; the input reads as it did. -/
def fnHexValueReadsBackWhatWasWrittenSpec : ChangeSpec := { name := "fnHexValueReadsBackWhatWasWritten", fn := fun _ => fun
  | [d1, d2, d3, d4] => { results := [.lit (.bool true)], args := [d1, d2, d3, d4] }
  | _ => none }
def fnHexValueReadsBackWhatWasWrittenRow : OpenClaim := { program := "qxb6601229amods", sum := "24c56ec00433e530f50ad47f684a7a336c1b72be0d89529e84cee6bf742807c4", func := "example.com/layered-config/layered-config/zzlaws_root_b1.FnHexValueReadsBackWhatWasWritten", spec := "fnHexValueReadsBackWhatWasWritten", make := .lifted ["publicsums"], apart := false }
def FnHexValueReadsBackWhatWasWrittenSaid : Prop := fnHexValueReadsBackWhatWasWrittenRow.holds Trym.pinned (OpenSpec.ofChange fnHexValueReadsBackWhatWasWrittenSpec)

/-- ITS FALSE NEIGHBOUR: 'it returns false'. Refute it at one input. -/
def fnHexValueReadsBackWhatWasWrittenWrong : ChangeSpec := { name := "fnHexValueReadsBackWhatWasWritten", fn := fun _ => fun
  | [d1, d2, d3, d4] => { results := [.lit (.bool false)], args := [d1, d2, d3, d4] }
  | _ => none }
def FnHexValueReadsBackWhatWasWrittenWrongFalsely : Prop := fnHexValueReadsBackWhatWasWrittenRow.holds Trym.pinned (OpenSpec.ofChange fnHexValueReadsBackWhatWasWrittenWrong)

/-- 'zzlaws_root_b1.FnPlainLineMatchesModel': WHATEVER THE INPUT: true; the input reads as it did. -/
def fnPlainLineMatchesModelSpec : ChangeSpec := { name := "fnPlainLineMatchesModel", fn := fun _ => fun
  | [d1, d2, d3] => { results := [.lit (.bool true)], args := [d1, d2, d3] }
  | _ => none }
def fnPlainLineMatchesModelRow : OpenClaim := { program := "qxb6601229amods", sum := "24c56ec00433e530f50ad47f684a7a336c1b72be0d89529e84cee6bf742807c4", func := "example.com/layered-config/layered-config/zzlaws_root_b1.FnPlainLineMatchesModel", spec := "fnPlainLineMatchesModel", make := .lifted ["publicsums"], apart := false }
def FnPlainLineMatchesModelSaid : Prop := fnPlainLineMatchesModelRow.holds Trym.pinned (OpenSpec.ofChange fnPlainLineMatchesModelSpec)

/-- ITS FALSE NEIGHBOUR: 'it returns false'. Refute it at one input. -/
def fnPlainLineMatchesModelWrong : ChangeSpec := { name := "fnPlainLineMatchesModel", fn := fun _ => fun
  | [d1, d2, d3] => { results := [.lit (.bool false)], args := [d1, d2, d3] }
  | _ => none }
def FnPlainLineMatchesModelWrongFalsely : Prop := fnPlainLineMatchesModelRow.holds Trym.pinned (OpenSpec.ofChange fnPlainLineMatchesModelWrong)

/-- 'zzlaws_root_b1.FnPlainLineResumesAtAStop': WHATEVER THE INPUT: true; the input reads as it did. -/
def fnPlainLineResumesAtAStopSpec : ChangeSpec := { name := "fnPlainLineResumesAtAStop", fn := fun _ => fun
  | [d1, d2, d3] => { results := [.lit (.bool true)], args := [d1, d2, d3] }
  | _ => none }
def fnPlainLineResumesAtAStopRow : OpenClaim := { program := "qxb6601229amods", sum := "24c56ec00433e530f50ad47f684a7a336c1b72be0d89529e84cee6bf742807c4", func := "example.com/layered-config/layered-config/zzlaws_root_b1.FnPlainLineResumesAtAStop", spec := "fnPlainLineResumesAtAStop", make := .lifted ["publicsums"], apart := false }
def FnPlainLineResumesAtAStopSaid : Prop := fnPlainLineResumesAtAStopRow.holds Trym.pinned (OpenSpec.ofChange fnPlainLineResumesAtAStopSpec)

/-- ITS FALSE NEIGHBOUR: 'it returns false'. Refute it at one input. -/
def fnPlainLineResumesAtAStopWrong : ChangeSpec := { name := "fnPlainLineResumesAtAStop", fn := fun _ => fun
  | [d1, d2, d3] => { results := [.lit (.bool false)], args := [d1, d2, d3] }
  | _ => none }
def FnPlainLineResumesAtAStopWrongFalsely : Prop := fnPlainLineResumesAtAStopRow.holds Trym.pinned (OpenSpec.ofChange fnPlainLineResumesAtAStopWrong)

/-- 'zzlaws_root_b1.FnPlainLineFlowIsPrefixOfBlock': WHATEVER THE INPUT: true; the input reads as it did. -/
def fnPlainLineFlowIsPrefixOfBlockSpec : ChangeSpec := { name := "fnPlainLineFlowIsPrefixOfBlock", fn := fun _ => fun
  | [d1, d2] => { results := [.lit (.bool true)], args := [d1, d2] }
  | _ => none }
def fnPlainLineFlowIsPrefixOfBlockRow : OpenClaim := { program := "qxb6601229amods", sum := "24c56ec00433e530f50ad47f684a7a336c1b72be0d89529e84cee6bf742807c4", func := "example.com/layered-config/layered-config/zzlaws_root_b1.FnPlainLineFlowIsPrefixOfBlock", spec := "fnPlainLineFlowIsPrefixOfBlock", make := .lifted ["publicsums"], apart := false }
def FnPlainLineFlowIsPrefixOfBlockSaid : Prop := fnPlainLineFlowIsPrefixOfBlockRow.holds Trym.pinned (OpenSpec.ofChange fnPlainLineFlowIsPrefixOfBlockSpec)

/-- ITS FALSE NEIGHBOUR: 'it returns false'. Refute it at one input. -/
def fnPlainLineFlowIsPrefixOfBlockWrong : ChangeSpec := { name := "fnPlainLineFlowIsPrefixOfBlock", fn := fun _ => fun
  | [d1, d2] => { results := [.lit (.bool false)], args := [d1, d2] }
  | _ => none }
def FnPlainLineFlowIsPrefixOfBlockWrongFalsely : Prop := fnPlainLineFlowIsPrefixOfBlockRow.holds Trym.pinned (OpenSpec.ofChange fnPlainLineFlowIsPrefixOfBlockWrong)

end Rows
end Go.Proofs.Qxb6601229aMods
