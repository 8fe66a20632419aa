/-
  No cell of these rows narrows 'for every input' (looked for: loops, veiled, ifaces, maps, wideKeys, modest, calm, conditions, laid).
  DERIVED. THE GIVEN ROWS OF THIS SEAT. 5 by the template 'for every input the law returns true; each argument reads behind the call as it read before'; 0 by the template 'total and deterministic' (their statements: Qxb6602809aModsTotals.lean).
  GIVEN WITH THE SEED: the statements are not yours to turn. If you find one false, say at which input.
  Laid BY PROGRAM, IN A SANDBOX (cutbox-rows.mjs): the forced cells as the released guide's own fill.sh prints them over the translation efc46bb8d87004cb… (all of the seat's roots in one cut). By AI agents, Wed Nov 11 2026. No macro, syntax, notation, axiom, sorry.
-/
import Derived.Test.Qxb6602809aModsChecked
import GoSem.Claim
import GoSem.ClaimJoined
import GoSem.ClaimMapViews
import Derived.JoinedTies
import Derived.KernelRfl
namespace Go.Proofs.Qxb6602809aMods
/- THE CELL 'sum', in the pinned program and in every row, IS THE sha256 OF THE DUMP (.gsa) THAT Qxb6602809aModsProg.lean LOADS. Nothing in Lean hashes anything: it is a label: what it is worth is what the hold of that sum in a sandbox is worth. -/
noncomputable def Trym.pinned : Pinned := { name := "qxb6602809amods", sum := "efc46bb8d87004cbb69c2e71d7a5150909f9603f9bc7ed7c03f6f798549ff283", checked := Trym.checked }
namespace Rows
def none {H : Type} : Left H := { results := [], args := [] }

/-- 'zzlaws_pkg_clientcert_b1.FnEscapeValueRoundTrip': WHATEVER THE INPUT: true; the input reads as it did. -/
def fnEscapeValueRoundTripSpec : ChangeSpec := { name := "fnEscapeValueRoundTrip", fn := fun _ => fun
  | [d] => { results := [.lit (.bool true)], args := [d] }
  | _ => none }
def fnEscapeValueRoundTripRow : OpenClaim := { program := "qxb6602809amods", sum := "efc46bb8d87004cbb69c2e71d7a5150909f9603f9bc7ed7c03f6f798549ff283", func := "example.com/claimbridge/claimbridge/zzlaws_pkg_clientcert_b1.FnEscapeValueRoundTrip", spec := "fnEscapeValueRoundTrip", inPlace := ["internal/abi.NoEscape", "internal/bytealg.IndexByteString", "internal/bytealg.IndexString"], named := ["internal/bytealg.MaxLen"], make := .lifted ["publicsums"], apart := false }
def FnEscapeValueRoundTripSaid : Prop := fnEscapeValueRoundTripRow.holds Trym.pinned (OpenSpec.ofChange fnEscapeValueRoundTripSpec)

/-- ITS FALSE NEIGHBOUR: 'it returns false'. Refute it at one input. -/
def fnEscapeValueRoundTripWrong : ChangeSpec := { name := "fnEscapeValueRoundTrip", fn := fun _ => fun
  | [d] => { results := [.lit (.bool false)], args := [d] }
  | _ => none }
def FnEscapeValueRoundTripWrongFalsely : Prop := fnEscapeValueRoundTripRow.holds Trym.pinned (OpenSpec.ofChange fnEscapeValueRoundTripWrong)

/-- 'zzlaws_pkg_clientcert_b1.FnEscapeValueSafe': WHATEVER THE INPUT: true; the input reads as it did. -/
def fnEscapeValueSafeSpec : ChangeSpec := { name := "fnEscapeValueSafe", fn := fun _ => fun
  | [d] => { results := [.lit (.bool true)], args := [d] }
  | _ => none }
def fnEscapeValueSafeRow : OpenClaim := { program := "qxb6602809amods", sum := "efc46bb8d87004cbb69c2e71d7a5150909f9603f9bc7ed7c03f6f798549ff283", func := "example.com/claimbridge/claimbridge/zzlaws_pkg_clientcert_b1.FnEscapeValueSafe", spec := "fnEscapeValueSafe", inPlace := ["internal/abi.NoEscape", "internal/bytealg.IndexByteString", "internal/bytealg.IndexString"], named := ["internal/bytealg.MaxLen"], make := .lifted ["publicsums"], apart := false }
def FnEscapeValueSafeSaid : Prop := fnEscapeValueSafeRow.holds Trym.pinned (OpenSpec.ofChange fnEscapeValueSafeSpec)

/-- ITS FALSE NEIGHBOUR: 'it returns false'. Refute it at one input. -/
def fnEscapeValueSafeWrong : ChangeSpec := { name := "fnEscapeValueSafe", fn := fun _ => fun
  | [d] => { results := [.lit (.bool false)], args := [d] }
  | _ => none }
def FnEscapeValueSafeWrongFalsely : Prop := fnEscapeValueSafeRow.holds Trym.pinned (OpenSpec.ofChange fnEscapeValueSafeWrong)

/-- 'zzlaws_pkg_clientcert_b1.FnDNStringSplitsBack': WHATEVER THE INPUT: true; the input reads as it did. -/
def fnDNStringSplitsBackSpec : ChangeSpec := { name := "fnDNStringSplitsBack", fn := fun _ => fun
  | [d1, d2] => { results := [.lit (.bool true)], args := [d1, d2] }
  | _ => none }
def fnDNStringSplitsBackRow : OpenClaim := { program := "qxb6602809amods", sum := "efc46bb8d87004cbb69c2e71d7a5150909f9603f9bc7ed7c03f6f798549ff283", func := "example.com/claimbridge/claimbridge/zzlaws_pkg_clientcert_b1.FnDNStringSplitsBack", spec := "fnDNStringSplitsBack", inPlace := ["internal/abi.NoEscape", "internal/bytealg.IndexByteString", "internal/bytealg.IndexString", "internal/bytealg.MakeNoZero"], named := ["internal/bytealg.MaxLen"], make := .lifted ["publicsums"], apart := false }
def FnDNStringSplitsBackSaid : Prop := fnDNStringSplitsBackRow.holds Trym.pinned (OpenSpec.ofChange fnDNStringSplitsBackSpec)

/-- ITS FALSE NEIGHBOUR: 'it returns false'. Refute it at one input. -/
def fnDNStringSplitsBackWrong : ChangeSpec := { name := "fnDNStringSplitsBack", fn := fun _ => fun
  | [d1, d2] => { results := [.lit (.bool false)], args := [d1, d2] }
  | _ => none }
def FnDNStringSplitsBackWrongFalsely : Prop := fnDNStringSplitsBackRow.holds Trym.pinned (OpenSpec.ofChange fnDNStringSplitsBackWrong)

/-- 'zzlaws_pkg_clientcert_b1.FnFillsIgnoresWording': WHATEVER THE INPUT: true; the input reads as it did. -/
def fnFillsIgnoresWordingSpec : ChangeSpec := { name := "fnFillsIgnoresWording", fn := fun _ => fun
  | [d1, d2, d3, d4] => { results := [.lit (.bool true)], args := [d1, d2, d3, d4] }
  | _ => none }
def fnFillsIgnoresWordingRow : OpenClaim := { program := "qxb6602809amods", sum := "efc46bb8d87004cbb69c2e71d7a5150909f9603f9bc7ed7c03f6f798549ff283", func := "example.com/claimbridge/claimbridge/zzlaws_pkg_clientcert_b1.FnFillsIgnoresWording", spec := "fnFillsIgnoresWording", make := .lifted ["publicsums"], apart := false }
def FnFillsIgnoresWordingSaid : Prop := fnFillsIgnoresWordingRow.holds Trym.pinned (OpenSpec.ofChange fnFillsIgnoresWordingSpec)

/-- ITS FALSE NEIGHBOUR: 'it returns false'. Refute it at one input. -/
def fnFillsIgnoresWordingWrong : ChangeSpec := { name := "fnFillsIgnoresWording", fn := fun _ => fun
  | [d1, d2, d3, d4] => { results := [.lit (.bool false)], args := [d1, d2, d3, d4] }
  | _ => none }
def FnFillsIgnoresWordingWrongFalsely : Prop := fnFillsIgnoresWordingRow.holds Trym.pinned (OpenSpec.ofChange fnFillsIgnoresWordingWrong)

/-- 'zzlaws_pkg_clientcert_b1.FnFillsDoubling': WHATEVER THE INPUT: true; the input reads as it did. -/
def fnFillsDoublingSpec : ChangeSpec := { name := "fnFillsDoubling", fn := fun _ => fun
  | [d1, d2, d3, d4] => { results := [.lit (.bool true)], args := [d1, d2, d3, d4] }
  | _ => none }
def fnFillsDoublingRow : OpenClaim := { program := "qxb6602809amods", sum := "efc46bb8d87004cbb69c2e71d7a5150909f9603f9bc7ed7c03f6f798549ff283", func := "example.com/claimbridge/claimbridge/zzlaws_pkg_clientcert_b1.FnFillsDoubling", spec := "fnFillsDoubling", make := .lifted ["publicsums"], apart := false }
def FnFillsDoublingSaid : Prop := fnFillsDoublingRow.holds Trym.pinned (OpenSpec.ofChange fnFillsDoublingSpec)

/-- ITS FALSE NEIGHBOUR: 'it returns false'. Refute it at one input. -/
def fnFillsDoublingWrong : ChangeSpec := { name := "fnFillsDoubling", fn := fun _ => fun
  | [d1, d2, d3, d4] => { results := [.lit (.bool false)], args := [d1, d2, d3, d4] }
  | _ => none }
def FnFillsDoublingWrongFalsely : Prop := fnFillsDoublingRow.holds Trym.pinned (OpenSpec.ofChange fnFillsDoublingWrong)

end Rows
end Go.Proofs.Qxb6602809aMods
