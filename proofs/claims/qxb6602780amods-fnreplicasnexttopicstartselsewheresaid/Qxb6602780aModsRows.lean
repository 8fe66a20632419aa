/-
  No cell of these rows narrows 'for every input' (looked for: loops, veiled, ifaces, maps, wideKeys, modest, calm, conditions, laid).
  DERIVED. THE GIVEN ROWS OF THIS SEAT. 7 by the template 'for every input the law returns true; each argument reads behind the call as it read before'; 0 by the template 'total and deterministic' (their statements: Qxb6602780aModsTotals.lean).
  GIVEN WITH THE SEED: the statements are not yours to turn. If you find one false, say at which input.
  Laid BY PROGRAM, IN A SANDBOX (cutbox-rows.mjs): the forced cells as the released guide's own fill.sh prints them over the translation 0ba5ced6ab899746… (all of the seat's roots in one cut). By AI agents, Wed Nov 11 2026. No macro, syntax, notation, axiom, sorry.
-/
import Derived.Test.Qxb6602780aModsChecked
import GoSem.Claim
import GoSem.ClaimJoined
import GoSem.ClaimMapViews
import Derived.JoinedTies
import Derived.KernelRfl
namespace Go.Proofs.Qxb6602780aMods
/- THE CELL 'sum', in the pinned program and in every row, IS THE sha256 OF THE DUMP (.gsa) THAT Qxb6602780aModsProg.lean LOADS. Nothing in Lean hashes anything: it is a label: what it is worth is what the hold of that sum in a sandbox is worth. -/
noncomputable def Trym.pinned : Pinned := { name := "qxb6602780amods", sum := "0ba5ced6ab899746431745432b39fce2e6189936f3ebda283a43023e4690c498", checked := Trym.checked }
namespace Rows
def none {H : Type} : Left H := { results := [], args := [] }

/-- 'zzlaws_controller_b1.FnLowerIsATrichotomy': WHATEVER THE INPUT: true; the input reads as it did. -/
def fnLowerIsATrichotomySpec : ChangeSpec := { name := "fnLowerIsATrichotomy", fn := fun _ => fun
  | [d1, d2] => { results := [.lit (.bool true)], args := [d1, d2] }
  | _ => none }
def fnLowerIsATrichotomyRow : OpenClaim := { program := "qxb6602780amods", sum := "0ba5ced6ab899746431745432b39fce2e6189936f3ebda283a43023e4690c498", func := "example.com/epochline/epochline/zzlaws_controller_b1.FnLowerIsATrichotomy", spec := "fnLowerIsATrichotomy", make := .lifted ["publicsums"], apart := false }
def FnLowerIsATrichotomySaid : Prop := fnLowerIsATrichotomyRow.holds Trym.pinned (OpenSpec.ofChange fnLowerIsATrichotomySpec)

/-- ITS FALSE NEIGHBOUR: 'it returns false'. Refute it at one input. -/
def fnLowerIsATrichotomyWrong : ChangeSpec := { name := "fnLowerIsATrichotomy", fn := fun _ => fun
  | [d1, d2] => { results := [.lit (.bool false)], args := [d1, d2] }
  | _ => none }
def FnLowerIsATrichotomyWrongFalsely : Prop := fnLowerIsATrichotomyRow.holds Trym.pinned (OpenSpec.ofChange fnLowerIsATrichotomyWrong)

/-- 'zzlaws_controller_b1.FnLowerIsTransitive': WHATEVER THE INPUT: true; the input reads as it did. -/
def fnLowerIsTransitiveSpec : ChangeSpec := { name := "fnLowerIsTransitive", fn := fun _ => fun
  | [d1, d2, d3] => { results := [.lit (.bool true)], args := [d1, d2, d3] }
  | _ => none }
def fnLowerIsTransitiveRow : OpenClaim := { program := "qxb6602780amods", sum := "0ba5ced6ab899746431745432b39fce2e6189936f3ebda283a43023e4690c498", func := "example.com/epochline/epochline/zzlaws_controller_b1.FnLowerIsTransitive", spec := "fnLowerIsTransitive", make := .lifted ["publicsums"], apart := false }
def FnLowerIsTransitiveSaid : Prop := fnLowerIsTransitiveRow.holds Trym.pinned (OpenSpec.ofChange fnLowerIsTransitiveSpec)

/-- ITS FALSE NEIGHBOUR: 'it returns false'. Refute it at one input. -/
def fnLowerIsTransitiveWrong : ChangeSpec := { name := "fnLowerIsTransitive", fn := fun _ => fun
  | [d1, d2, d3] => { results := [.lit (.bool false)], args := [d1, d2, d3] }
  | _ => none }
def FnLowerIsTransitiveWrongFalsely : Prop := fnLowerIsTransitiveRow.holds Trym.pinned (OpenSpec.ofChange fnLowerIsTransitiveWrong)

/-- 'zzlaws_controller_b1.FnStartIsTheLeastCandidate': WHATEVER THE INPUT: true; the input reads as it did. -/
def fnStartIsTheLeastCandidateSpec : ChangeSpec := { name := "fnStartIsTheLeastCandidate", fn := fun _ => fun
  | [d1, d2, d3, d4, d5, d6] => { results := [.lit (.bool true)], args := [d1, d2, d3, d4, d5, d6] }
  | _ => none }
def fnStartIsTheLeastCandidateRow : OpenClaim := { program := "qxb6602780amods", sum := "0ba5ced6ab899746431745432b39fce2e6189936f3ebda283a43023e4690c498", func := "example.com/epochline/epochline/zzlaws_controller_b1.FnStartIsTheLeastCandidate", spec := "fnStartIsTheLeastCandidate", make := .lifted ["publicsums"], apart := false }
def FnStartIsTheLeastCandidateSaid : Prop := fnStartIsTheLeastCandidateRow.holds Trym.pinned (OpenSpec.ofChange fnStartIsTheLeastCandidateSpec)

/-- ITS FALSE NEIGHBOUR: 'it returns false'. Refute it at one input. -/
def fnStartIsTheLeastCandidateWrong : ChangeSpec := { name := "fnStartIsTheLeastCandidate", fn := fun _ => fun
  | [d1, d2, d3, d4, d5, d6] => { results := [.lit (.bool false)], args := [d1, d2, d3, d4, d5, d6] }
  | _ => none }
def FnStartIsTheLeastCandidateWrongFalsely : Prop := fnStartIsTheLeastCandidateRow.holds Trym.pinned (OpenSpec.ofChange fnStartIsTheLeastCandidateWrong)

/-- 'zzlaws_controller_b1.FnStartTurnsWithTheRing': WHATEVER THE INPUT: true; the input reads as it did. -/
def fnStartTurnsWithTheRingSpec : ChangeSpec := { name := "fnStartTurnsWithTheRing", fn := fun _ => fun
  | [d1, d2, d3, d4, d5, d6, d7] => { results := [.lit (.bool true)], args := [d1, d2, d3, d4, d5, d6, d7] }
  | _ => none }
def fnStartTurnsWithTheRingRow : OpenClaim := { program := "qxb6602780amods", sum := "0ba5ced6ab899746431745432b39fce2e6189936f3ebda283a43023e4690c498", func := "example.com/epochline/epochline/zzlaws_controller_b1.FnStartTurnsWithTheRing", spec := "fnStartTurnsWithTheRing", make := .lifted ["publicsums"], apart := false }
def FnStartTurnsWithTheRingSaid : Prop := fnStartTurnsWithTheRingRow.holds Trym.pinned (OpenSpec.ofChange fnStartTurnsWithTheRingSpec)

/-- ITS FALSE NEIGHBOUR: 'it returns false'. Refute it at one input. -/
def fnStartTurnsWithTheRingWrong : ChangeSpec := { name := "fnStartTurnsWithTheRing", fn := fun _ => fun
  | [d1, d2, d3, d4, d5, d6, d7] => { results := [.lit (.bool false)], args := [d1, d2, d3, d4, d5, d6, d7] }
  | _ => none }
def FnStartTurnsWithTheRingWrongFalsely : Prop := fnStartTurnsWithTheRingRow.holds Trym.pinned (OpenSpec.ofChange fnStartTurnsWithTheRingWrong)

/-- 'zzlaws_controller_b1.FnReplicasMatchesClosedForm': WHATEVER THE INPUT: true; the input reads as it did. -/
def fnReplicasMatchesClosedFormSpec : ChangeSpec := { name := "fnReplicasMatchesClosedForm", fn := fun _ => fun
  | [d1, d2, d3, d4, d5, d6, d7] => { results := [.lit (.bool true)], args := [d1, d2, d3, d4, d5, d6, d7] }
  | _ => none }
def fnReplicasMatchesClosedFormRow : OpenClaim := { program := "qxb6602780amods", sum := "0ba5ced6ab899746431745432b39fce2e6189936f3ebda283a43023e4690c498", func := "example.com/epochline/epochline/zzlaws_controller_b1.FnReplicasMatchesClosedForm", spec := "fnReplicasMatchesClosedForm", make := .lifted ["publicsums"], apart := false }
def FnReplicasMatchesClosedFormSaid : Prop := fnReplicasMatchesClosedFormRow.holds Trym.pinned (OpenSpec.ofChange fnReplicasMatchesClosedFormSpec)

/-- ITS FALSE NEIGHBOUR: 'it returns false'. Refute it at one input. -/
def fnReplicasMatchesClosedFormWrong : ChangeSpec := { name := "fnReplicasMatchesClosedForm", fn := fun _ => fun
  | [d1, d2, d3, d4, d5, d6, d7] => { results := [.lit (.bool false)], args := [d1, d2, d3, d4, d5, d6, d7] }
  | _ => none }
def FnReplicasMatchesClosedFormWrongFalsely : Prop := fnReplicasMatchesClosedFormRow.holds Trym.pinned (OpenSpec.ofChange fnReplicasMatchesClosedFormWrong)

/-- 'zzlaws_controller_b1.FnReplicasDistinctAndEvenlyLed': WHATEVER THE INPUT: true; the input reads as it did. -/
def fnReplicasDistinctAndEvenlyLedSpec : ChangeSpec := { name := "fnReplicasDistinctAndEvenlyLed", fn := fun _ => fun
  | [d1, d2, d3, d4, d5, d6, d7] => { results := [.lit (.bool true)], args := [d1, d2, d3, d4, d5, d6, d7] }
  | _ => none }
def fnReplicasDistinctAndEvenlyLedRow : OpenClaim := { program := "qxb6602780amods", sum := "0ba5ced6ab899746431745432b39fce2e6189936f3ebda283a43023e4690c498", func := "example.com/epochline/epochline/zzlaws_controller_b1.FnReplicasDistinctAndEvenlyLed", spec := "fnReplicasDistinctAndEvenlyLed", make := .lifted ["publicsums"], apart := false }
def FnReplicasDistinctAndEvenlyLedSaid : Prop := fnReplicasDistinctAndEvenlyLedRow.holds Trym.pinned (OpenSpec.ofChange fnReplicasDistinctAndEvenlyLedSpec)

/-- ITS FALSE NEIGHBOUR: 'it returns false'. Refute it at one input. -/
def fnReplicasDistinctAndEvenlyLedWrong : ChangeSpec := { name := "fnReplicasDistinctAndEvenlyLed", fn := fun _ => fun
  | [d1, d2, d3, d4, d5, d6, d7] => { results := [.lit (.bool false)], args := [d1, d2, d3, d4, d5, d6, d7] }
  | _ => none }
def FnReplicasDistinctAndEvenlyLedWrongFalsely : Prop := fnReplicasDistinctAndEvenlyLedRow.holds Trym.pinned (OpenSpec.ofChange fnReplicasDistinctAndEvenlyLedWrong)

/-- 'zzlaws_controller_b1.FnReplicasNextTopicStartsElsewhere': WHATEVER THE INPUT: true; the input reads as it did. -/
def fnReplicasNextTopicStartsElsewhereSpec : ChangeSpec := { name := "fnReplicasNextTopicStartsElsewhere", fn := fun _ => fun
  | [d1, d2, d3, d4, d5, d6, d7, d8] => { results := [.lit (.bool true)], args := [d1, d2, d3, d4, d5, d6, d7, d8] }
  | _ => none }
def fnReplicasNextTopicStartsElsewhereRow : OpenClaim := { program := "qxb6602780amods", sum := "0ba5ced6ab899746431745432b39fce2e6189936f3ebda283a43023e4690c498", func := "example.com/epochline/epochline/zzlaws_controller_b1.FnReplicasNextTopicStartsElsewhere", spec := "fnReplicasNextTopicStartsElsewhere", make := .lifted ["publicsums"], apart := false }
def FnReplicasNextTopicStartsElsewhereSaid : Prop := fnReplicasNextTopicStartsElsewhereRow.holds Trym.pinned (OpenSpec.ofChange fnReplicasNextTopicStartsElsewhereSpec)

/-- ITS FALSE NEIGHBOUR: 'it returns false'. Refute it at one input. -/
def fnReplicasNextTopicStartsElsewhereWrong : ChangeSpec := { name := "fnReplicasNextTopicStartsElsewhere", fn := fun _ => fun
  | [d1, d2, d3, d4, d5, d6, d7, d8] => { results := [.lit (.bool false)], args := [d1, d2, d3, d4, d5, d6, d7, d8] }
  | _ => none }
def FnReplicasNextTopicStartsElsewhereWrongFalsely : Prop := fnReplicasNextTopicStartsElsewhereRow.holds Trym.pinned (OpenSpec.ofChange fnReplicasNextTopicStartsElsewhereWrong)

end Rows
end Go.Proofs.Qxb6602780aMods
