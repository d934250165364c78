/-
  No cell of these rows narrows 'for every input' (looked for: loops, veiled, ifaces, maps, wideKeys, modest, calm, conditions, laid).
  DERIVED. THE GIVEN ROWS OF THIS SEAT. 5 by the template 'for every input the law returns true; each argument reads behind the call as it read before'; 0 by the template 'total and deterministic' (their statements: Qxb6603108aTotals.lean).
  GIVEN WITH THE SEED: the statements are not yours to turn. If you find one false, say at which input.
  Laid BY PROGRAM, IN A SANDBOX (cutbox-rows.mjs): the forced cells as the released guide's own fill.sh prints them over the translation 5b35978dc94291c0… (all of the seat's roots in one cut). By AI agents, Wed Nov 11 2026. No macro, syntax, notation, axiom, sorry.
-/
import Derived.Test.Qxb6603108aChecked
import GoSem.Claim
import GoSem.ClaimJoined
import GoSem.ClaimMapViews
import Derived.JoinedTies
import Derived.KernelRfl
namespace Go.Proofs.Qxb6603108a
/- THE CELL 'sum', in the pinned program and in every row, IS THE sha256 OF THE DUMP (.gsa) THAT Qxb6603108aProg.lean LOADS. Nothing in Lean hashes anything: it is a label: what it is worth is what the hold of that sum in a sandbox is worth. -/
noncomputable def Try.pinned : Pinned := { name := "qxb6603108a", sum := "5b35978dc94291c05b742b23271c9b5524faaf0de0a2a4cd96f73c69678bd5b7", checked := Try.checked }
namespace Rows
def none {H : Type} : Left H := { results := [], args := [] }

/-- 'zzlaws_bootstrap_b1.FnPathSegmentDecodesBack': WHATEVER THE INPUT: true; the input reads as it did. -/
def fnPathSegmentDecodesBackSpec : ChangeSpec := { name := "fnPathSegmentDecodesBack", fn := fun _ => fun
  | [d] => { results := [.lit (.bool true)], args := [d] }
  | _ => none }
def fnPathSegmentDecodesBackRow : OpenClaim := { program := "qxb6603108a", sum := "5b35978dc94291c05b742b23271c9b5524faaf0de0a2a4cd96f73c69678bd5b7", func := "example.com/lodestar/lodestar/zzlaws_bootstrap_b1.FnPathSegmentDecodesBack", spec := "fnPathSegmentDecodesBack", inPlace := ["internal/abi.NoEscape", "internal/bytealg.MakeNoZero", "internal/bytealg.IndexByteString"], apart := false }
def FnPathSegmentDecodesBackSaid : Prop := fnPathSegmentDecodesBackRow.holds Try.pinned (OpenSpec.ofChange fnPathSegmentDecodesBackSpec)

/-- ITS FALSE NEIGHBOUR: 'it returns false'. Refute it at one input. -/
def fnPathSegmentDecodesBackWrong : ChangeSpec := { name := "fnPathSegmentDecodesBack", fn := fun _ => fun
  | [d] => { results := [.lit (.bool false)], args := [d] }
  | _ => none }
def FnPathSegmentDecodesBackWrongFalsely : Prop := fnPathSegmentDecodesBackRow.holds Try.pinned (OpenSpec.ofChange fnPathSegmentDecodesBackWrong)

/-- 'zzlaws_bootstrap_b1.FnPathSegmentIsCanonical': WHATEVER THE INPUT: true; the input reads as it did. -/
def fnPathSegmentIsCanonicalSpec : ChangeSpec := { name := "fnPathSegmentIsCanonical", fn := fun _ => fun
  | [d] => { results := [.lit (.bool true)], args := [d] }
  | _ => none }
def fnPathSegmentIsCanonicalRow : OpenClaim := { program := "qxb6603108a", sum := "5b35978dc94291c05b742b23271c9b5524faaf0de0a2a4cd96f73c69678bd5b7", func := "example.com/lodestar/lodestar/zzlaws_bootstrap_b1.FnPathSegmentIsCanonical", spec := "fnPathSegmentIsCanonical", inPlace := ["internal/abi.NoEscape", "internal/bytealg.MakeNoZero", "internal/bytealg.IndexByteString"], apart := false }
def FnPathSegmentIsCanonicalSaid : Prop := fnPathSegmentIsCanonicalRow.holds Try.pinned (OpenSpec.ofChange fnPathSegmentIsCanonicalSpec)

/-- ITS FALSE NEIGHBOUR: 'it returns false'. Refute it at one input. -/
def fnPathSegmentIsCanonicalWrong : ChangeSpec := { name := "fnPathSegmentIsCanonical", fn := fun _ => fun
  | [d] => { results := [.lit (.bool false)], args := [d] }
  | _ => none }
def FnPathSegmentIsCanonicalWrongFalsely : Prop := fnPathSegmentIsCanonicalRow.holds Try.pinned (OpenSpec.ofChange fnPathSegmentIsCanonicalWrong)

/-- 'zzlaws_bootstrap_b1.FnLookupLongestWholeLabelEntry': WHATEVER THE INPUT: true; the input reads as it did. -/
def fnLookupLongestWholeLabelEntrySpec : ChangeSpec := { name := "fnLookupLongestWholeLabelEntry", fn := fun _ => fun
  | [d1, d2, d3] => { results := [.lit (.bool true)], args := [d1, d2, d3] }
  | _ => none }
def fnLookupLongestWholeLabelEntryRow : OpenClaim := { program := "qxb6603108a", sum := "5b35978dc94291c05b742b23271c9b5524faaf0de0a2a4cd96f73c69678bd5b7", func := "example.com/lodestar/lodestar/zzlaws_bootstrap_b1.FnLookupLongestWholeLabelEntry", spec := "fnLookupLongestWholeLabelEntry", inPlace := ["internal/bytealg.IndexByteString"], apart := false }
def FnLookupLongestWholeLabelEntrySaid : Prop := fnLookupLongestWholeLabelEntryRow.holds Try.pinned (OpenSpec.ofChange fnLookupLongestWholeLabelEntrySpec)

/-- ITS FALSE NEIGHBOUR: 'it returns false'. Refute it at one input. -/
def fnLookupLongestWholeLabelEntryWrong : ChangeSpec := { name := "fnLookupLongestWholeLabelEntry", fn := fun _ => fun
  | [d1, d2, d3] => { results := [.lit (.bool false)], args := [d1, d2, d3] }
  | _ => none }
def FnLookupLongestWholeLabelEntryWrongFalsely : Prop := fnLookupLongestWholeLabelEntryRow.holds Try.pinned (OpenSpec.ofChange fnLookupLongestWholeLabelEntryWrong)

/-- 'zzlaws_bootstrap_b1.FnLookupSkipsAbsentLeadingLabel': WHATEVER THE INPUT: true; the input reads as it did. -/
def fnLookupSkipsAbsentLeadingLabelSpec : ChangeSpec := { name := "fnLookupSkipsAbsentLeadingLabel", fn := fun _ => fun
  | [d1, d2, d3, d4] => { results := [.lit (.bool true)], args := [d1, d2, d3, d4] }
  | _ => none }
def fnLookupSkipsAbsentLeadingLabelRow : OpenClaim := { program := "qxb6603108a", sum := "5b35978dc94291c05b742b23271c9b5524faaf0de0a2a4cd96f73c69678bd5b7", func := "example.com/lodestar/lodestar/zzlaws_bootstrap_b1.FnLookupSkipsAbsentLeadingLabel", spec := "fnLookupSkipsAbsentLeadingLabel", inPlace := ["internal/bytealg.IndexByteString"], apart := false }
def FnLookupSkipsAbsentLeadingLabelSaid : Prop := fnLookupSkipsAbsentLeadingLabelRow.holds Try.pinned (OpenSpec.ofChange fnLookupSkipsAbsentLeadingLabelSpec)

/-- ITS FALSE NEIGHBOUR: 'it returns false'. Refute it at one input. -/
def fnLookupSkipsAbsentLeadingLabelWrong : ChangeSpec := { name := "fnLookupSkipsAbsentLeadingLabel", fn := fun _ => fun
  | [d1, d2, d3, d4] => { results := [.lit (.bool false)], args := [d1, d2, d3, d4] }
  | _ => none }
def FnLookupSkipsAbsentLeadingLabelWrongFalsely : Prop := fnLookupSkipsAbsentLeadingLabelRow.holds Try.pinned (OpenSpec.ofChange fnLookupSkipsAbsentLeadingLabelWrong)

/-- 'zzlaws_bootstrap_b1.FnExceptionMatchesRFC5892Table': WHATEVER THE INPUT: true; the input reads as it did. -/
def fnExceptionMatchesRFC5892TableSpec : ChangeSpec := { name := "fnExceptionMatchesRFC5892Table", fn := fun _ => fun
  | [d] => { results := [.lit (.bool true)], args := [d] }
  | _ => none }
def fnExceptionMatchesRFC5892TableRow : OpenClaim := { program := "qxb6603108a", sum := "5b35978dc94291c05b742b23271c9b5524faaf0de0a2a4cd96f73c69678bd5b7", func := "example.com/lodestar/lodestar/zzlaws_bootstrap_b1.FnExceptionMatchesRFC5892Table", spec := "fnExceptionMatchesRFC5892Table", apart := false }
def FnExceptionMatchesRFC5892TableSaid : Prop := fnExceptionMatchesRFC5892TableRow.holds Try.pinned (OpenSpec.ofChange fnExceptionMatchesRFC5892TableSpec)

/-- ITS FALSE NEIGHBOUR: 'it returns false'. Refute it at one input. -/
def fnExceptionMatchesRFC5892TableWrong : ChangeSpec := { name := "fnExceptionMatchesRFC5892Table", fn := fun _ => fun
  | [d] => { results := [.lit (.bool false)], args := [d] }
  | _ => none }
def FnExceptionMatchesRFC5892TableWrongFalsely : Prop := fnExceptionMatchesRFC5892TableRow.holds Try.pinned (OpenSpec.ofChange fnExceptionMatchesRFC5892TableWrong)

end Rows
end Go.Proofs.Qxb6603108a
