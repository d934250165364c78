/-
  No cell of these rows narrows 'for every input' (looked for: loops, veiled, ifaces, maps, wideKeys, modest, calm, conditions, laid).
  DERIVED. THE GIVEN ROWS OF THIS SEAT. 6 by the template 'for every input the law returns true; each argument reads behind the call as it read before'; 0 by the template 'total and deterministic' (their statements: Qxb6001717aTotals.lean).
  GIVEN WITH THE SEED: the statements are not yours to turn. If you find one false, say at which input.
  Laid BY PROGRAM, IN A SANDBOX (cutbox-rows.mjs): the forced cells as the released guide's own fill.sh prints them over the translation cfc9e131b694a63e… (all of the seat's roots in one cut). By AI agents, Wed Nov 11 2026. No macro, syntax, notation, axiom, sorry.
-/
import Derived.Test.Qxb6001717aChecked
import GoSem.Claim
import GoSem.ClaimJoined
import GoSem.ClaimMapViews
import Derived.JoinedTies
import Derived.KernelRfl
namespace Go.Proofs.Qxb6001717a
/- THE CELL 'sum', in the pinned program and in every row, IS THE sha256 OF THE DUMP (.gsa) THAT Qxb6001717aProg.lean LOADS. Nothing in Lean hashes anything: it is a label: what it is worth is what the hold of that sum in a sandbox is worth. -/
noncomputable def Try.pinned : Pinned := { name := "qxb6001717a", sum := "cfc9e131b694a63e2a1b105610eaefc16788132124bd04716e08fe8e0327e481", checked := Try.checked }
namespace Rows
def none {H : Type} : Left H := { results := [], args := [] }

/-- 'zzlaws_pkg_rules_b1.FnPeekExact': WHATEVER THE INPUT: true; the input reads as it did. -/
def fnPeekExactSpec : ChangeSpec := { name := "fnPeekExact", fn := fun _ => fun
  | [d1, d2] => { results := [.lit (.bool true)], args := [d1, d2] }
  | _ => none }
def fnPeekExactRow : OpenClaim := { program := "qxb6001717a", sum := "cfc9e131b694a63e2a1b105610eaefc16788132124bd04716e08fe8e0327e481", func := "example.com/tuoguan/tuoguan/zzlaws_pkg_rules_b1.FnPeekExact", spec := "fnPeekExact", apart := false }
def FnPeekExactSaid : Prop := fnPeekExactRow.holds Try.pinned (OpenSpec.ofChange fnPeekExactSpec)

/-- ITS FALSE NEIGHBOUR: 'it returns false'. Refute it at one input. -/
def fnPeekExactWrong : ChangeSpec := { name := "fnPeekExact", fn := fun _ => fun
  | [d1, d2] => { results := [.lit (.bool false)], args := [d1, d2] }
  | _ => none }
def FnPeekExactWrongFalsely : Prop := fnPeekExactRow.holds Try.pinned (OpenSpec.ofChange fnPeekExactWrong)

/-- 'zzlaws_pkg_rules_b1.FnPeekLeadingSpace': WHATEVER THE INPUT: true; the input reads as it did. -/
def fnPeekLeadingSpaceSpec : ChangeSpec := { name := "fnPeekLeadingSpace", fn := fun _ => fun
  | [d1, d2] => { results := [.lit (.bool true)], args := [d1, d2] }
  | _ => none }
def fnPeekLeadingSpaceRow : OpenClaim := { program := "qxb6001717a", sum := "cfc9e131b694a63e2a1b105610eaefc16788132124bd04716e08fe8e0327e481", func := "example.com/tuoguan/tuoguan/zzlaws_pkg_rules_b1.FnPeekLeadingSpace", spec := "fnPeekLeadingSpace", apart := false }
def FnPeekLeadingSpaceSaid : Prop := fnPeekLeadingSpaceRow.holds Try.pinned (OpenSpec.ofChange fnPeekLeadingSpaceSpec)

/-- ITS FALSE NEIGHBOUR: 'it returns false'. Refute it at one input. -/
def fnPeekLeadingSpaceWrong : ChangeSpec := { name := "fnPeekLeadingSpace", fn := fun _ => fun
  | [d1, d2] => { results := [.lit (.bool false)], args := [d1, d2] }
  | _ => none }
def FnPeekLeadingSpaceWrongFalsely : Prop := fnPeekLeadingSpaceRow.holds Try.pinned (OpenSpec.ofChange fnPeekLeadingSpaceWrong)

/-- 'zzlaws_pkg_rules_b1.FnValueReadEndsAValue': WHATEVER THE INPUT: true; the input reads as it did. -/
def fnValueReadEndsAValueSpec : ChangeSpec := { name := "fnValueReadEndsAValue", fn := fun _ => fun
  | [d1, d2] => { results := [.lit (.bool true)], args := [d1, d2] }
  | _ => none }
def fnValueReadEndsAValueRow : OpenClaim := { program := "qxb6001717a", sum := "cfc9e131b694a63e2a1b105610eaefc16788132124bd04716e08fe8e0327e481", func := "example.com/tuoguan/tuoguan/zzlaws_pkg_rules_b1.FnValueReadEndsAValue", spec := "fnValueReadEndsAValue", apart := false }
def FnValueReadEndsAValueSaid : Prop := fnValueReadEndsAValueRow.holds Try.pinned (OpenSpec.ofChange fnValueReadEndsAValueSpec)

/-- ITS FALSE NEIGHBOUR: 'it returns false'. Refute it at one input. -/
def fnValueReadEndsAValueWrong : ChangeSpec := { name := "fnValueReadEndsAValue", fn := fun _ => fun
  | [d1, d2] => { results := [.lit (.bool false)], args := [d1, d2] }
  | _ => none }
def FnValueReadEndsAValueWrongFalsely : Prop := fnValueReadEndsAValueRow.holds Try.pinned (OpenSpec.ofChange fnValueReadEndsAValueWrong)

/-- 'zzlaws_pkg_rules_b1.FnValueReadInnermostBracket': WHATEVER THE INPUT: true; the input reads as it did. -/
def fnValueReadInnermostBracketSpec : ChangeSpec := { name := "fnValueReadInnermostBracket", fn := fun _ => fun
  | [d1, d2] => { results := [.lit (.bool true)], args := [d1, d2] }
  | _ => none }
def fnValueReadInnermostBracketRow : OpenClaim := { program := "qxb6001717a", sum := "cfc9e131b694a63e2a1b105610eaefc16788132124bd04716e08fe8e0327e481", func := "example.com/tuoguan/tuoguan/zzlaws_pkg_rules_b1.FnValueReadInnermostBracket", spec := "fnValueReadInnermostBracket", apart := false }
def FnValueReadInnermostBracketSaid : Prop := fnValueReadInnermostBracketRow.holds Try.pinned (OpenSpec.ofChange fnValueReadInnermostBracketSpec)

/-- ITS FALSE NEIGHBOUR: 'it returns false'. Refute it at one input. -/
def fnValueReadInnermostBracketWrong : ChangeSpec := { name := "fnValueReadInnermostBracket", fn := fun _ => fun
  | [d1, d2] => { results := [.lit (.bool false)], args := [d1, d2] }
  | _ => none }
def FnValueReadInnermostBracketWrongFalsely : Prop := fnValueReadInnermostBracketRow.holds Try.pinned (OpenSpec.ofChange fnValueReadInnermostBracketWrong)

/-- 'zzlaws_pkg_rules_b1.FnPeriodAgreesWithKey': WHATEVER THE INPUT: true; the input reads as it did. -/
def fnPeriodAgreesWithKeySpec : ChangeSpec := { name := "fnPeriodAgreesWithKey", fn := fun _ => fun
  | [d1, d2, d3, d4] => { results := [.lit (.bool true)], args := [d1, d2, d3, d4] }
  | _ => none }
def fnPeriodAgreesWithKeyRow : OpenClaim := { program := "qxb6001717a", sum := "cfc9e131b694a63e2a1b105610eaefc16788132124bd04716e08fe8e0327e481", func := "example.com/tuoguan/tuoguan/zzlaws_pkg_rules_b1.FnPeriodAgreesWithKey", spec := "fnPeriodAgreesWithKey", apart := false }
def FnPeriodAgreesWithKeySaid : Prop := fnPeriodAgreesWithKeyRow.holds Try.pinned (OpenSpec.ofChange fnPeriodAgreesWithKeySpec)

/-- ITS FALSE NEIGHBOUR: 'it returns false'. Refute it at one input. -/
def fnPeriodAgreesWithKeyWrong : ChangeSpec := { name := "fnPeriodAgreesWithKey", fn := fun _ => fun
  | [d1, d2, d3, d4] => { results := [.lit (.bool false)], args := [d1, d2, d3, d4] }
  | _ => none }
def FnPeriodAgreesWithKeyWrongFalsely : Prop := fnPeriodAgreesWithKeyRow.holds Try.pinned (OpenSpec.ofChange fnPeriodAgreesWithKeyWrong)

/-- 'zzlaws_pkg_rules_b1.FnPeriodPrecedenceAndNone': WHATEVER THE INPUT: true; the input reads as it did. -/
def fnPeriodPrecedenceAndNoneSpec : ChangeSpec := { name := "fnPeriodPrecedenceAndNone", fn := fun _ => fun
  | [d1, d2] => { results := [.lit (.bool true)], args := [d1, d2] }
  | _ => none }
def fnPeriodPrecedenceAndNoneRow : OpenClaim := { program := "qxb6001717a", sum := "cfc9e131b694a63e2a1b105610eaefc16788132124bd04716e08fe8e0327e481", func := "example.com/tuoguan/tuoguan/zzlaws_pkg_rules_b1.FnPeriodPrecedenceAndNone", spec := "fnPeriodPrecedenceAndNone", apart := false }
def FnPeriodPrecedenceAndNoneSaid : Prop := fnPeriodPrecedenceAndNoneRow.holds Try.pinned (OpenSpec.ofChange fnPeriodPrecedenceAndNoneSpec)

/-- ITS FALSE NEIGHBOUR: 'it returns false'. Refute it at one input. -/
def fnPeriodPrecedenceAndNoneWrong : ChangeSpec := { name := "fnPeriodPrecedenceAndNone", fn := fun _ => fun
  | [d1, d2] => { results := [.lit (.bool false)], args := [d1, d2] }
  | _ => none }
def FnPeriodPrecedenceAndNoneWrongFalsely : Prop := fnPeriodPrecedenceAndNoneRow.holds Try.pinned (OpenSpec.ofChange fnPeriodPrecedenceAndNoneWrong)

end Rows
end Go.Proofs.Qxb6001717a
