/-
  No cell of these rows narrows 'for every input' (looked for: loops, veiled, ifaces, maps, wideKeys, modest, calm, conditions, laid).
  DERIVED. THE GIVEN ROWS OF THIS SEAT. 5 by the template 'for every input the law returns true; each argument reads behind the call as it read before'; 0 by the template 'total and deterministic' (their statements: Qxb6602025aModsTotals.lean).
  GIVEN WITH THE SEED: the statements are not yours to turn. If you find one false, say at which input.
  Laid BY PROGRAM, IN A SANDBOX (cutbox-rows.mjs): the forced cells as the released guide's own fill.sh prints them over the translation f782e41c28d7881f… (all of the seat's roots in one cut). By AI agents, Wed Nov 11 2026. No macro, syntax, notation, axiom, sorry.
-/
import Derived.Test.Qxb6602025aModsChecked
import GoSem.Claim
import GoSem.ClaimJoined
import GoSem.ClaimMapViews
import Derived.JoinedTies
import Derived.KernelRfl
namespace Go.Proofs.Qxb6602025aMods
/- THE CELL 'sum', in the pinned program and in every row, IS THE sha256 OF THE DUMP (.gsa) THAT Qxb6602025aModsProg.lean LOADS. Nothing in Lean hashes anything: it is a label: what it is worth is what the hold of that sum in a sandbox is worth. -/
noncomputable def Trym.pinned : Pinned := { name := "qxb6602025amods", sum := "f782e41c28d7881fa9097bee2f4d2a1e86fdd640f27353fd07e07683d82d0372", checked := Trym.checked }
namespace Rows
def none {H : Type} : Left H := { results := [], args := [] }

/-- 'zzlaws_root_b1.FnIsReasonMatchesAutomaton': WHATEVER THE INPUT: true; the input reads as it did. -/
def fnIsReasonMatchesAutomatonSpec : ChangeSpec := { name := "fnIsReasonMatchesAutomaton", fn := fun _ => fun
  | [d] => { results := [.lit (.bool true)], args := [d] }
  | _ => none }
def fnIsReasonMatchesAutomatonRow : OpenClaim := { program := "qxb6602025amods", sum := "f782e41c28d7881fa9097bee2f4d2a1e86fdd640f27353fd07e07683d82d0372", func := "example.com/faultline/faultline/zzlaws_root_b1.FnIsReasonMatchesAutomaton", spec := "fnIsReasonMatchesAutomaton", make := .lifted ["publicsums"], apart := false }
def FnIsReasonMatchesAutomatonSaid : Prop := fnIsReasonMatchesAutomatonRow.holds Trym.pinned (OpenSpec.ofChange fnIsReasonMatchesAutomatonSpec)

/-- ITS FALSE NEIGHBOUR: 'it returns false'. Refute it at one input. -/
def fnIsReasonMatchesAutomatonWrong : ChangeSpec := { name := "fnIsReasonMatchesAutomaton", fn := fun _ => fun
  | [d] => { results := [.lit (.bool false)], args := [d] }
  | _ => none }
def FnIsReasonMatchesAutomatonWrongFalsely : Prop := fnIsReasonMatchesAutomatonRow.holds Trym.pinned (OpenSpec.ofChange fnIsReasonMatchesAutomatonWrong)

/-- 'zzlaws_root_b1.FnReasonAndMetadataKeyDisjoint': WHATEVER THE INPUT: true; the input reads as it did. -/
def fnReasonAndMetadataKeyDisjointSpec : ChangeSpec := { name := "fnReasonAndMetadataKeyDisjoint", fn := fun _ => fun
  | [d] => { results := [.lit (.bool true)], args := [d] }
  | _ => none }
def fnReasonAndMetadataKeyDisjointRow : OpenClaim := { program := "qxb6602025amods", sum := "f782e41c28d7881fa9097bee2f4d2a1e86fdd640f27353fd07e07683d82d0372", func := "example.com/faultline/faultline/zzlaws_root_b1.FnReasonAndMetadataKeyDisjoint", spec := "fnReasonAndMetadataKeyDisjoint", make := .lifted ["publicsums"], apart := false }
def FnReasonAndMetadataKeyDisjointSaid : Prop := fnReasonAndMetadataKeyDisjointRow.holds Trym.pinned (OpenSpec.ofChange fnReasonAndMetadataKeyDisjointSpec)

/-- ITS FALSE NEIGHBOUR: 'it returns false'. Refute it at one input. -/
def fnReasonAndMetadataKeyDisjointWrong : ChangeSpec := { name := "fnReasonAndMetadataKeyDisjoint", fn := fun _ => fun
  | [d] => { results := [.lit (.bool false)], args := [d] }
  | _ => none }
def FnReasonAndMetadataKeyDisjointWrongFalsely : Prop := fnReasonAndMetadataKeyDisjointRow.holds Trym.pinned (OpenSpec.ofChange fnReasonAndMetadataKeyDisjointWrong)

/-- 'zzlaws_root_b1.FnReasonLoweredIsMetadataKey': WHATEVER THE INPUT: true; the input reads as it did. -/
def fnReasonLoweredIsMetadataKeySpec : ChangeSpec := { name := "fnReasonLoweredIsMetadataKey", fn := fun _ => fun
  | [d] => { results := [.lit (.bool true)], args := [d] }
  | _ => none }
def fnReasonLoweredIsMetadataKeyRow : OpenClaim := { program := "qxb6602025amods", sum := "f782e41c28d7881fa9097bee2f4d2a1e86fdd640f27353fd07e07683d82d0372", func := "example.com/faultline/faultline/zzlaws_root_b1.FnReasonLoweredIsMetadataKey", spec := "fnReasonLoweredIsMetadataKey", make := .lifted ["publicsums"], apart := false }
def FnReasonLoweredIsMetadataKeySaid : Prop := fnReasonLoweredIsMetadataKeyRow.holds Trym.pinned (OpenSpec.ofChange fnReasonLoweredIsMetadataKeySpec)

/-- ITS FALSE NEIGHBOUR: 'it returns false'. Refute it at one input. -/
def fnReasonLoweredIsMetadataKeyWrong : ChangeSpec := { name := "fnReasonLoweredIsMetadataKey", fn := fun _ => fun
  | [d] => { results := [.lit (.bool false)], args := [d] }
  | _ => none }
def FnReasonLoweredIsMetadataKeyWrongFalsely : Prop := fnReasonLoweredIsMetadataKeyRow.holds Trym.pinned (OpenSpec.ofChange fnReasonLoweredIsMetadataKeyWrong)

/-- 'zzlaws_root_b1.FnMetadataKeyPrefixClosed': WHATEVER THE INPUT: true; the input reads as it did. -/
def fnMetadataKeyPrefixClosedSpec : ChangeSpec := { name := "fnMetadataKeyPrefixClosed", fn := fun _ => fun
  | [d1, d2] => { results := [.lit (.bool true)], args := [d1, d2] }
  | _ => none }
def fnMetadataKeyPrefixClosedRow : OpenClaim := { program := "qxb6602025amods", sum := "f782e41c28d7881fa9097bee2f4d2a1e86fdd640f27353fd07e07683d82d0372", func := "example.com/faultline/faultline/zzlaws_root_b1.FnMetadataKeyPrefixClosed", spec := "fnMetadataKeyPrefixClosed", make := .lifted ["publicsums"], apart := false }
def FnMetadataKeyPrefixClosedSaid : Prop := fnMetadataKeyPrefixClosedRow.holds Trym.pinned (OpenSpec.ofChange fnMetadataKeyPrefixClosedSpec)

/-- ITS FALSE NEIGHBOUR: 'it returns false'. Refute it at one input. -/
def fnMetadataKeyPrefixClosedWrong : ChangeSpec := { name := "fnMetadataKeyPrefixClosed", fn := fun _ => fun
  | [d1, d2] => { results := [.lit (.bool false)], args := [d1, d2] }
  | _ => none }
def FnMetadataKeyPrefixClosedWrongFalsely : Prop := fnMetadataKeyPrefixClosedRow.holds Trym.pinned (OpenSpec.ofChange fnMetadataKeyPrefixClosedWrong)

/-- 'zzlaws_root_b1.FnReasonPrefixExact': WHATEVER THE INPUT: true; the input reads as it did. -/
def fnReasonPrefixExactSpec : ChangeSpec := { name := "fnReasonPrefixExact", fn := fun _ => fun
  | [d1, d2] => { results := [.lit (.bool true)], args := [d1, d2] }
  | _ => none }
def fnReasonPrefixExactRow : OpenClaim := { program := "qxb6602025amods", sum := "f782e41c28d7881fa9097bee2f4d2a1e86fdd640f27353fd07e07683d82d0372", func := "example.com/faultline/faultline/zzlaws_root_b1.FnReasonPrefixExact", spec := "fnReasonPrefixExact", make := .lifted ["publicsums"], apart := false }
def FnReasonPrefixExactSaid : Prop := fnReasonPrefixExactRow.holds Trym.pinned (OpenSpec.ofChange fnReasonPrefixExactSpec)

/-- ITS FALSE NEIGHBOUR: 'it returns false'. Refute it at one input. -/
def fnReasonPrefixExactWrong : ChangeSpec := { name := "fnReasonPrefixExact", fn := fun _ => fun
  | [d1, d2] => { results := [.lit (.bool false)], args := [d1, d2] }
  | _ => none }
def FnReasonPrefixExactWrongFalsely : Prop := fnReasonPrefixExactRow.holds Trym.pinned (OpenSpec.ofChange fnReasonPrefixExactWrong)

end Rows
end Go.Proofs.Qxb6602025aMods
