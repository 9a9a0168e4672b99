/-
  No cell of these rows narrows 'for every input' (looked for: loops, veiled, ifaces, maps, wideKeys, modest, calm, conditions, laid).
  DERIVED. THE GIVEN ROWS OF THIS SEAT. 4 by the template 'for every input the law returns true; each argument reads behind the call as it read before'; 0 by the template 'total and deterministic' (their statements: Qxb6601398aTotals.lean).
  GIVEN WITH THE SEED: the statements are not yours to turn. If you find one false, say at which input.
  Laid BY PROGRAM, IN A SANDBOX (cutbox-rows.mjs): the forced cells as the released guide's own fill.sh prints them over the translation 662a0dc95f964b26… (all of the seat's roots in one cut). By AI agents, Wed Nov 11 2026. No macro, syntax, notation, axiom, sorry.
-/
import Derived.Test.Qxb6601398aChecked
import GoSem.Claim
import GoSem.ClaimJoined
import GoSem.ClaimMapViews
import Derived.JoinedTies
import Derived.KernelRfl
namespace Go.Proofs.Qxb6601398a
/- THE CELL 'sum', in the pinned program and in every row, IS THE sha256 OF THE DUMP (.gsa) THAT Qxb6601398aProg.lean LOADS. Nothing in Lean hashes anything: it is a label: what it is worth is what the hold of that sum in a sandbox is worth. -/
noncomputable def Try.pinned : Pinned := { name := "qxb6601398a", sum := "662a0dc95f964b263b25918a6ac99f437697c3774814f7d991a9e2cd0b7ff3e7", checked := Try.checked }
namespace Rows
def none {H : Type} : Left H := { results := [], args := [] }

/-- 'zzlaws_internal_limit_b1.FnGroupsOfSpec': WHATEVER THE INPUT: true; the input reads as it did. -/
def fnGroupsOfSpecSpec : ChangeSpec := { name := "fnGroupsOfSpec", fn := fun _ => fun
  | [d1, d2, d3, d4, d5] => { results := [.lit (.bool true)], args := [d1, d2, d3, d4, d5] }
  | _ => none }
def fnGroupsOfSpecRow : OpenClaim := { program := "qxb6601398a", sum := "662a0dc95f964b263b25918a6ac99f437697c3774814f7d991a9e2cd0b7ff3e7", func := "example.com/tuoguan/tuoguan/zzlaws_internal_limit_b1.FnGroupsOfSpec", spec := "fnGroupsOfSpec", apart := false }
def FnGroupsOfSpecSaid : Prop := fnGroupsOfSpecRow.holds Try.pinned (OpenSpec.ofChange fnGroupsOfSpecSpec)

/-- ITS FALSE NEIGHBOUR: 'it returns false'. Refute it at one input. -/
def fnGroupsOfSpecWrong : ChangeSpec := { name := "fnGroupsOfSpec", fn := fun _ => fun
  | [d1, d2, d3, d4, d5] => { results := [.lit (.bool false)], args := [d1, d2, d3, d4, d5] }
  | _ => none }
def FnGroupsOfSpecWrongFalsely : Prop := fnGroupsOfSpecRow.holds Try.pinned (OpenSpec.ofChange fnGroupsOfSpecWrong)

/-- 'zzlaws_internal_limit_b1.FnGroupsOfOneYearIsFilter': WHATEVER THE INPUT: true; the input reads as it did. -/
def fnGroupsOfOneYearIsFilterSpec : ChangeSpec := { name := "fnGroupsOfOneYearIsFilter", fn := fun _ => fun
  | [d1, d2, d3, d4] => { results := [.lit (.bool true)], args := [d1, d2, d3, d4] }
  | _ => none }
def fnGroupsOfOneYearIsFilterRow : OpenClaim := { program := "qxb6601398a", sum := "662a0dc95f964b263b25918a6ac99f437697c3774814f7d991a9e2cd0b7ff3e7", func := "example.com/tuoguan/tuoguan/zzlaws_internal_limit_b1.FnGroupsOfOneYearIsFilter", spec := "fnGroupsOfOneYearIsFilter", apart := false }
def FnGroupsOfOneYearIsFilterSaid : Prop := fnGroupsOfOneYearIsFilterRow.holds Try.pinned (OpenSpec.ofChange fnGroupsOfOneYearIsFilterSpec)

/-- ITS FALSE NEIGHBOUR: 'it returns false'. Refute it at one input. -/
def fnGroupsOfOneYearIsFilterWrong : ChangeSpec := { name := "fnGroupsOfOneYearIsFilter", fn := fun _ => fun
  | [d1, d2, d3, d4] => { results := [.lit (.bool false)], args := [d1, d2, d3, d4] }
  | _ => none }
def FnGroupsOfOneYearIsFilterWrongFalsely : Prop := fnGroupsOfOneYearIsFilterRow.holds Try.pinned (OpenSpec.ofChange fnGroupsOfOneYearIsFilterWrong)

/-- 'zzlaws_internal_limit_b1.FnGroupsOfConcat': WHATEVER THE INPUT: true; the input reads as it did. -/
def fnGroupsOfConcatSpec : ChangeSpec := { name := "fnGroupsOfConcat", fn := fun _ => fun
  | [d1, d2, d3] => { results := [.lit (.bool true)], args := [d1, d2, d3] }
  | _ => none }
def fnGroupsOfConcatRow : OpenClaim := { program := "qxb6601398a", sum := "662a0dc95f964b263b25918a6ac99f437697c3774814f7d991a9e2cd0b7ff3e7", func := "example.com/tuoguan/tuoguan/zzlaws_internal_limit_b1.FnGroupsOfConcat", spec := "fnGroupsOfConcat", apart := false }
def FnGroupsOfConcatSaid : Prop := fnGroupsOfConcatRow.holds Try.pinned (OpenSpec.ofChange fnGroupsOfConcatSpec)

/-- ITS FALSE NEIGHBOUR: 'it returns false'. Refute it at one input. -/
def fnGroupsOfConcatWrong : ChangeSpec := { name := "fnGroupsOfConcat", fn := fun _ => fun
  | [d1, d2, d3] => { results := [.lit (.bool false)], args := [d1, d2, d3] }
  | _ => none }
def FnGroupsOfConcatWrongFalsely : Prop := fnGroupsOfConcatRow.holds Try.pinned (OpenSpec.ofChange fnGroupsOfConcatWrong)

/-- 'zzlaws_internal_limit_b1.FnOfIssuerInjective': WHATEVER THE INPUT: true; the input reads as it did. -/
def fnOfIssuerInjectiveSpec : ChangeSpec := { name := "fnOfIssuerInjective", fn := fun _ => fun
  | [d1, d2] => { results := [.lit (.bool true)], args := [d1, d2] }
  | _ => none }
def fnOfIssuerInjectiveRow : OpenClaim := { program := "qxb6601398a", sum := "662a0dc95f964b263b25918a6ac99f437697c3774814f7d991a9e2cd0b7ff3e7", func := "example.com/tuoguan/tuoguan/zzlaws_internal_limit_b1.FnOfIssuerInjective", spec := "fnOfIssuerInjective", apart := false }
def FnOfIssuerInjectiveSaid : Prop := fnOfIssuerInjectiveRow.holds Try.pinned (OpenSpec.ofChange fnOfIssuerInjectiveSpec)

/-- ITS FALSE NEIGHBOUR: 'it returns false'. Refute it at one input. -/
def fnOfIssuerInjectiveWrong : ChangeSpec := { name := "fnOfIssuerInjective", fn := fun _ => fun
  | [d1, d2] => { results := [.lit (.bool false)], args := [d1, d2] }
  | _ => none }
def FnOfIssuerInjectiveWrongFalsely : Prop := fnOfIssuerInjectiveRow.holds Try.pinned (OpenSpec.ofChange fnOfIssuerInjectiveWrong)

end Rows
end Go.Proofs.Qxb6601398a
