/-
  No cell of these rows narrows 'for every input' (looked for: loops, veiled, ifaces, maps, wideKeys, modest, calm, conditions, laid).
  DERIVED. THE GIVEN ROWS OF THIS SEAT. 5 by the template 'for every input the law returns true; each argument reads behind the call as it read before'; 0 by the template 'total and deterministic' (their statements: Qxb6000803aTotals.lean).
  GIVEN WITH THE SEED: the statements are not yours to turn. If you find one false, say at which input.
  Laid BY PROGRAM, IN A SANDBOX (cutbox-rows.mjs): the forced cells as the released guide's own fill.sh prints them over the translation 2ad4518486fee3db… (all of the seat's roots in one cut). By AI agents, Wed Nov 11 2026. No macro, syntax, notation, axiom, sorry.
-/
import Derived.Test.Qxb6000803aChecked
import GoSem.Claim
import GoSem.ClaimJoined
import GoSem.ClaimMapViews
import Derived.JoinedTies
import Derived.KernelRfl
namespace Go.Proofs.Qxb6000803a
/- THE CELL 'sum', in the pinned program and in every row, IS THE sha256 OF THE DUMP (.gsa) THAT Qxb6000803aProg.lean LOADS. Nothing in Lean hashes anything: it is a label: what it is worth is what the hold of that sum in a sandbox is worth. -/
noncomputable def Try.pinned : Pinned := { name := "qxb6000803a", sum := "2ad4518486fee3db4a1f9a4de52696d0e68e4b24cfe6e839ad015b16ced9b4fc", checked := Try.checked }
namespace Rows
def none {H : Type} : Left H := { results := [], args := [] }

/-- 'zzlaws_internal_files_b1.FnPlainSingleByteSet': WHATEVER THE INPUT: true; the input reads as it did. -/
def fnPlainSingleByteSetSpec : ChangeSpec := { name := "fnPlainSingleByteSet", fn := fun _ => fun
  | [d] => { results := [.lit (.bool true)], args := [d] }
  | _ => none }
def fnPlainSingleByteSetRow : OpenClaim := { program := "qxb6000803a", sum := "2ad4518486fee3db4a1f9a4de52696d0e68e4b24cfe6e839ad015b16ced9b4fc", func := "example.com/zhaomu/zhaomu/zzlaws_internal_files_b1.FnPlainSingleByteSet", spec := "fnPlainSingleByteSet", apart := false }
def FnPlainSingleByteSetSaid : Prop := fnPlainSingleByteSetRow.holds Try.pinned (OpenSpec.ofChange fnPlainSingleByteSetSpec)

/-- ITS FALSE NEIGHBOUR: 'it returns false'. Refute it at one input. -/
def fnPlainSingleByteSetWrong : ChangeSpec := { name := "fnPlainSingleByteSet", fn := fun _ => fun
  | [d] => { results := [.lit (.bool false)], args := [d] }
  | _ => none }
def FnPlainSingleByteSetWrongFalsely : Prop := fnPlainSingleByteSetRow.holds Try.pinned (OpenSpec.ofChange fnPlainSingleByteSetWrong)

/-- 'zzlaws_internal_files_b1.FnPlainSplitsOverConcat': WHATEVER THE INPUT: true; the input reads as it did. -/
def fnPlainSplitsOverConcatSpec : ChangeSpec := { name := "fnPlainSplitsOverConcat", fn := fun _ => fun
  | [d1, d2] => { results := [.lit (.bool true)], args := [d1, d2] }
  | _ => none }
def fnPlainSplitsOverConcatRow : OpenClaim := { program := "qxb6000803a", sum := "2ad4518486fee3db4a1f9a4de52696d0e68e4b24cfe6e839ad015b16ced9b4fc", func := "example.com/zhaomu/zhaomu/zzlaws_internal_files_b1.FnPlainSplitsOverConcat", spec := "fnPlainSplitsOverConcat", apart := false }
def FnPlainSplitsOverConcatSaid : Prop := fnPlainSplitsOverConcatRow.holds Try.pinned (OpenSpec.ofChange fnPlainSplitsOverConcatSpec)

/-- ITS FALSE NEIGHBOUR: 'it returns false'. Refute it at one input. -/
def fnPlainSplitsOverConcatWrong : ChangeSpec := { name := "fnPlainSplitsOverConcat", fn := fun _ => fun
  | [d1, d2] => { results := [.lit (.bool false)], args := [d1, d2] }
  | _ => none }
def FnPlainSplitsOverConcatWrongFalsely : Prop := fnPlainSplitsOverConcatRow.holds Try.pinned (OpenSpec.ofChange fnPlainSplitsOverConcatWrong)

/-- 'zzlaws_internal_files_b1.FnValidIDByteSet': WHATEVER THE INPUT: true; the input reads as it did. -/
def fnValidIDByteSetSpec : ChangeSpec := { name := "fnValidIDByteSet", fn := fun _ => fun
  | [d] => { results := [.lit (.bool true)], args := [d] }
  | _ => none }
def fnValidIDByteSetRow : OpenClaim := { program := "qxb6000803a", sum := "2ad4518486fee3db4a1f9a4de52696d0e68e4b24cfe6e839ad015b16ced9b4fc", func := "example.com/zhaomu/zhaomu/zzlaws_internal_files_b1.FnValidIDByteSet", spec := "fnValidIDByteSet", apart := false }
def FnValidIDByteSetSaid : Prop := fnValidIDByteSetRow.holds Try.pinned (OpenSpec.ofChange fnValidIDByteSetSpec)

/-- ITS FALSE NEIGHBOUR: 'it returns false'. Refute it at one input. -/
def fnValidIDByteSetWrong : ChangeSpec := { name := "fnValidIDByteSet", fn := fun _ => fun
  | [d] => { results := [.lit (.bool false)], args := [d] }
  | _ => none }
def FnValidIDByteSetWrongFalsely : Prop := fnValidIDByteSetRow.holds Try.pinned (OpenSpec.ofChange fnValidIDByteSetWrong)

/-- 'zzlaws_internal_files_b1.FnValidIDIsShortPlainWithoutDotOrSlash': WHATEVER THE INPUT: true; the input reads as it did. -/
def fnValidIDIsShortPlainWithoutDotOrSlashSpec : ChangeSpec := { name := "fnValidIDIsShortPlainWithoutDotOrSlash", fn := fun _ => fun
  | [d] => { results := [.lit (.bool true)], args := [d] }
  | _ => none }
def fnValidIDIsShortPlainWithoutDotOrSlashRow : OpenClaim := { program := "qxb6000803a", sum := "2ad4518486fee3db4a1f9a4de52696d0e68e4b24cfe6e839ad015b16ced9b4fc", func := "example.com/zhaomu/zhaomu/zzlaws_internal_files_b1.FnValidIDIsShortPlainWithoutDotOrSlash", spec := "fnValidIDIsShortPlainWithoutDotOrSlash", apart := false }
def FnValidIDIsShortPlainWithoutDotOrSlashSaid : Prop := fnValidIDIsShortPlainWithoutDotOrSlashRow.holds Try.pinned (OpenSpec.ofChange fnValidIDIsShortPlainWithoutDotOrSlashSpec)

/-- ITS FALSE NEIGHBOUR: 'it returns false'. Refute it at one input. -/
def fnValidIDIsShortPlainWithoutDotOrSlashWrong : ChangeSpec := { name := "fnValidIDIsShortPlainWithoutDotOrSlash", fn := fun _ => fun
  | [d] => { results := [.lit (.bool false)], args := [d] }
  | _ => none }
def FnValidIDIsShortPlainWithoutDotOrSlashWrongFalsely : Prop := fnValidIDIsShortPlainWithoutDotOrSlashRow.holds Try.pinned (OpenSpec.ofChange fnValidIDIsShortPlainWithoutDotOrSlashWrong)

/-- 'zzlaws_internal_files_b1.FnValidIDSplitsOverConcat': WHATEVER THE INPUT: true; the input reads as it did. -/
def fnValidIDSplitsOverConcatSpec : ChangeSpec := { name := "fnValidIDSplitsOverConcat", fn := fun _ => fun
  | [d1, d2] => { results := [.lit (.bool true)], args := [d1, d2] }
  | _ => none }
def fnValidIDSplitsOverConcatRow : OpenClaim := { program := "qxb6000803a", sum := "2ad4518486fee3db4a1f9a4de52696d0e68e4b24cfe6e839ad015b16ced9b4fc", func := "example.com/zhaomu/zhaomu/zzlaws_internal_files_b1.FnValidIDSplitsOverConcat", spec := "fnValidIDSplitsOverConcat", apart := false }
def FnValidIDSplitsOverConcatSaid : Prop := fnValidIDSplitsOverConcatRow.holds Try.pinned (OpenSpec.ofChange fnValidIDSplitsOverConcatSpec)

/-- ITS FALSE NEIGHBOUR: 'it returns false'. Refute it at one input. -/
def fnValidIDSplitsOverConcatWrong : ChangeSpec := { name := "fnValidIDSplitsOverConcat", fn := fun _ => fun
  | [d1, d2] => { results := [.lit (.bool false)], args := [d1, d2] }
  | _ => none }
def FnValidIDSplitsOverConcatWrongFalsely : Prop := fnValidIDSplitsOverConcatRow.holds Try.pinned (OpenSpec.ofChange fnValidIDSplitsOverConcatWrong)

end Rows
end Go.Proofs.Qxb6000803a
