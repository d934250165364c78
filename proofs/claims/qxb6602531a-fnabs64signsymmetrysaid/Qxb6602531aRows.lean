/-
  No cell of these rows narrows 'for every input' (looked for: loops, veiled, ifaces, maps, wideKeys, modest, calm, conditions, laid).
  DERIVED. THE GIVEN ROWS OF THIS SEAT. 5 by the template 'for every input the law returns true; each argument reads behind the call as it read before'; 0 by the template 'total and deterministic' (their statements: Qxb6602531aTotals.lean).
  GIVEN WITH THE SEED: the statements are not yours to turn. If you find one false, say at which input.
  Laid BY PROGRAM, IN A SANDBOX (cutbox-rows.mjs): the forced cells as the released guide's own fill.sh prints them over the translation 8c230e20139d4268… (all of the seat's roots in one cut). By AI agents, Wed Nov 11 2026. No macro, syntax, notation, axiom, sorry.
-/
import Derived.Test.Qxb6602531aChecked
import GoSem.Claim
import GoSem.ClaimJoined
import GoSem.ClaimMapViews
import Derived.JoinedTies
import Derived.KernelRfl
namespace Go.Proofs.Qxb6602531a
/- THE CELL 'sum', in the pinned program and in every row, IS THE sha256 OF THE DUMP (.gsa) THAT Qxb6602531aProg.lean LOADS. Nothing in Lean hashes anything: it is a label: what it is worth is what the hold of that sum in a sandbox is worth. -/
noncomputable def Try.pinned : Pinned := { name := "qxb6602531a", sum := "8c230e20139d4268ca2bd7cea4b1949c7f7fc641b19d1905a7d07dd9eec7155e", checked := Try.checked }
namespace Rows
def none {H : Type} : Left H := { results := [], args := [] }

/-- 'zzlaws_decimal_b1.FnWellFormedMatchesGrammar': WHATEVER THE INPUT: true; the input reads as it did. -/
def fnWellFormedMatchesGrammarSpec : ChangeSpec := { name := "fnWellFormedMatchesGrammar", fn := fun _ => fun
  | [d] => { results := [.lit (.bool true)], args := [d] }
  | _ => none }
def fnWellFormedMatchesGrammarRow : OpenClaim := { program := "qxb6602531a", sum := "8c230e20139d4268ca2bd7cea4b1949c7f7fc641b19d1905a7d07dd9eec7155e", func := "example.com/tuoguan/tuoguan/zzlaws_decimal_b1.FnWellFormedMatchesGrammar", spec := "fnWellFormedMatchesGrammar", apart := false }
def FnWellFormedMatchesGrammarSaid : Prop := fnWellFormedMatchesGrammarRow.holds Try.pinned (OpenSpec.ofChange fnWellFormedMatchesGrammarSpec)

/-- ITS FALSE NEIGHBOUR: 'it returns false'. Refute it at one input. -/
def fnWellFormedMatchesGrammarWrong : ChangeSpec := { name := "fnWellFormedMatchesGrammar", fn := fun _ => fun
  | [d] => { results := [.lit (.bool false)], args := [d] }
  | _ => none }
def FnWellFormedMatchesGrammarWrongFalsely : Prop := fnWellFormedMatchesGrammarRow.holds Try.pinned (OpenSpec.ofChange fnWellFormedMatchesGrammarWrong)

/-- 'zzlaws_decimal_b1.FnWellFormedSignPrefix': WHATEVER THE INPUT: true; the input reads as it did. -/
def fnWellFormedSignPrefixSpec : ChangeSpec := { name := "fnWellFormedSignPrefix", fn := fun _ => fun
  | [d] => { results := [.lit (.bool true)], args := [d] }
  | _ => none }
def fnWellFormedSignPrefixRow : OpenClaim := { program := "qxb6602531a", sum := "8c230e20139d4268ca2bd7cea4b1949c7f7fc641b19d1905a7d07dd9eec7155e", func := "example.com/tuoguan/tuoguan/zzlaws_decimal_b1.FnWellFormedSignPrefix", spec := "fnWellFormedSignPrefix", apart := false }
def FnWellFormedSignPrefixSaid : Prop := fnWellFormedSignPrefixRow.holds Try.pinned (OpenSpec.ofChange fnWellFormedSignPrefixSpec)

/-- ITS FALSE NEIGHBOUR: 'it returns false'. Refute it at one input. -/
def fnWellFormedSignPrefixWrong : ChangeSpec := { name := "fnWellFormedSignPrefix", fn := fun _ => fun
  | [d] => { results := [.lit (.bool false)], args := [d] }
  | _ => none }
def FnWellFormedSignPrefixWrongFalsely : Prop := fnWellFormedSignPrefixRow.holds Try.pinned (OpenSpec.ofChange fnWellFormedSignPrefixWrong)

/-- 'zzlaws_decimal_b1.FnWellFormedPointAndDigitEnds': WHATEVER THE INPUT: true; the input reads as it did. -/
def fnWellFormedPointAndDigitEndsSpec : ChangeSpec := { name := "fnWellFormedPointAndDigitEnds", fn := fun _ => fun
  | [d] => { results := [.lit (.bool true)], args := [d] }
  | _ => none }
def fnWellFormedPointAndDigitEndsRow : OpenClaim := { program := "qxb6602531a", sum := "8c230e20139d4268ca2bd7cea4b1949c7f7fc641b19d1905a7d07dd9eec7155e", func := "example.com/tuoguan/tuoguan/zzlaws_decimal_b1.FnWellFormedPointAndDigitEnds", spec := "fnWellFormedPointAndDigitEnds", apart := false }
def FnWellFormedPointAndDigitEndsSaid : Prop := fnWellFormedPointAndDigitEndsRow.holds Try.pinned (OpenSpec.ofChange fnWellFormedPointAndDigitEndsSpec)

/-- ITS FALSE NEIGHBOUR: 'it returns false'. Refute it at one input. -/
def fnWellFormedPointAndDigitEndsWrong : ChangeSpec := { name := "fnWellFormedPointAndDigitEnds", fn := fun _ => fun
  | [d] => { results := [.lit (.bool false)], args := [d] }
  | _ => none }
def FnWellFormedPointAndDigitEndsWrongFalsely : Prop := fnWellFormedPointAndDigitEndsRow.holds Try.pinned (OpenSpec.ofChange fnWellFormedPointAndDigitEndsWrong)

/-- 'zzlaws_decimal_b1.FnAbs64SignSymmetry': WHATEVER THE INPUT: true; the input reads as it did. -/
def fnAbs64SignSymmetrySpec : ChangeSpec := { name := "fnAbs64SignSymmetry", fn := fun _ => fun
  | [d] => { results := [.lit (.bool true)], args := [d] }
  | _ => none }
def fnAbs64SignSymmetryRow : OpenClaim := { program := "qxb6602531a", sum := "8c230e20139d4268ca2bd7cea4b1949c7f7fc641b19d1905a7d07dd9eec7155e", func := "example.com/tuoguan/tuoguan/zzlaws_decimal_b1.FnAbs64SignSymmetry", spec := "fnAbs64SignSymmetry", apart := false }
def FnAbs64SignSymmetrySaid : Prop := fnAbs64SignSymmetryRow.holds Try.pinned (OpenSpec.ofChange fnAbs64SignSymmetrySpec)

/-- ITS FALSE NEIGHBOUR: 'it returns false'. Refute it at one input. -/
def fnAbs64SignSymmetryWrong : ChangeSpec := { name := "fnAbs64SignSymmetry", fn := fun _ => fun
  | [d] => { results := [.lit (.bool false)], args := [d] }
  | _ => none }
def FnAbs64SignSymmetryWrongFalsely : Prop := fnAbs64SignSymmetryRow.holds Try.pinned (OpenSpec.ofChange fnAbs64SignSymmetryWrong)

/-- 'zzlaws_decimal_b1.FnAbs64TriangleAndProduct': WHATEVER THE INPUT: true; the input reads as it did. -/
def fnAbs64TriangleAndProductSpec : ChangeSpec := { name := "fnAbs64TriangleAndProduct", fn := fun _ => fun
  | [d1, d2] => { results := [.lit (.bool true)], args := [d1, d2] }
  | _ => none }
def fnAbs64TriangleAndProductRow : OpenClaim := { program := "qxb6602531a", sum := "8c230e20139d4268ca2bd7cea4b1949c7f7fc641b19d1905a7d07dd9eec7155e", func := "example.com/tuoguan/tuoguan/zzlaws_decimal_b1.FnAbs64TriangleAndProduct", spec := "fnAbs64TriangleAndProduct", apart := false }
def FnAbs64TriangleAndProductSaid : Prop := fnAbs64TriangleAndProductRow.holds Try.pinned (OpenSpec.ofChange fnAbs64TriangleAndProductSpec)

/-- ITS FALSE NEIGHBOUR: 'it returns false'. Refute it at one input. -/
def fnAbs64TriangleAndProductWrong : ChangeSpec := { name := "fnAbs64TriangleAndProduct", fn := fun _ => fun
  | [d1, d2] => { results := [.lit (.bool false)], args := [d1, d2] }
  | _ => none }
def FnAbs64TriangleAndProductWrongFalsely : Prop := fnAbs64TriangleAndProductRow.holds Try.pinned (OpenSpec.ofChange fnAbs64TriangleAndProductWrong)

end Rows
end Go.Proofs.Qxb6602531a
