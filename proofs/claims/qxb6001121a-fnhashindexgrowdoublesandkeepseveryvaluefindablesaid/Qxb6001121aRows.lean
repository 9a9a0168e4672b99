/-
  No cell of these rows narrows 'for every input' (looked for: loops, veiled, ifaces, maps, wideKeys, modest, calm, conditions, laid).
  DERIVED. THE GIVEN ROWS OF THIS SEAT. 5 by the template 'for every input the law returns true; each argument reads behind the call as it read before'; 0 by the template 'total and deterministic' (their statements: Qxb6001121aTotals.lean).
  GIVEN WITH THE SEED: the statements are not yours to turn. If you find one false, say at which input.
  Laid BY PROGRAM, IN A SANDBOX (cutbox-rows.mjs): the forced cells as the released guide's own fill.sh prints them over the translation 36ef6302d929fdf2… (all of the seat's roots in one cut). By AI agents, Wed Nov 11 2026. No macro, syntax, notation, axiom, sorry.
-/
import Derived.Test.Qxb6001121aChecked
import GoSem.Claim
import GoSem.ClaimJoined
import GoSem.ClaimMapViews
import Derived.JoinedTies
import Derived.KernelRfl
namespace Go.Proofs.Qxb6001121a
/- THE CELL 'sum', in the pinned program and in every row, IS THE sha256 OF THE DUMP (.gsa) THAT Qxb6001121aProg.lean LOADS. Nothing in Lean hashes anything: it is a label: what it is worth is what the hold of that sum in a sandbox is worth. -/
noncomputable def Try.pinned : Pinned := { name := "qxb6001121a", sum := "36ef6302d929fdf2a7bb820e03613b516883b5c29cf68d4cf04c7b748e8a0bcf", checked := Try.checked }
namespace Rows
def none {H : Type} : Left H := { results := [], args := [] }

/-- 'zzlaws_root_b1.FnHashIndexGrowDoublesAndKeepsEveryValueFindable': WHATEVER THE INPUT: true; the input reads as it did. -/
def fnHashIndexGrowDoublesAndKeepsEveryValueFindableSpec : ChangeSpec := { name := "fnHashIndexGrowDoublesAndKeepsEveryValueFindable", fn := fun _ => fun
  | [d1, d2, d3, d4, d5] => { results := [.lit (.bool true)], args := [d1, d2, d3, d4, d5] }
  | _ => none }
def fnHashIndexGrowDoublesAndKeepsEveryValueFindableRow : OpenClaim := { program := "qxb6001121a", sum := "36ef6302d929fdf2a7bb820e03613b516883b5c29cf68d4cf04c7b748e8a0bcf", func := "example.com/strict-conf/strict-conf/zzlaws_root_b1.FnHashIndexGrowDoublesAndKeepsEveryValueFindable", spec := "fnHashIndexGrowDoublesAndKeepsEveryValueFindable", apart := false }
def FnHashIndexGrowDoublesAndKeepsEveryValueFindableSaid : Prop := fnHashIndexGrowDoublesAndKeepsEveryValueFindableRow.holds Try.pinned (OpenSpec.ofChange fnHashIndexGrowDoublesAndKeepsEveryValueFindableSpec)

/-- ITS FALSE NEIGHBOUR: 'it returns false'. Refute it at one input. -/
def fnHashIndexGrowDoublesAndKeepsEveryValueFindableWrong : ChangeSpec := { name := "fnHashIndexGrowDoublesAndKeepsEveryValueFindable", fn := fun _ => fun
  | [d1, d2, d3, d4, d5] => { results := [.lit (.bool false)], args := [d1, d2, d3, d4, d5] }
  | _ => none }
def FnHashIndexGrowDoublesAndKeepsEveryValueFindableWrongFalsely : Prop := fnHashIndexGrowDoublesAndKeepsEveryValueFindableRow.holds Try.pinned (OpenSpec.ofChange fnHashIndexGrowDoublesAndKeepsEveryValueFindableWrong)

/-- 'zzlaws_root_b1.FnHashIndexGrowPlacesAlikeWithOrWithoutRoom': WHATEVER THE INPUT: true; the input reads as it did. -/
def fnHashIndexGrowPlacesAlikeWithOrWithoutRoomSpec : ChangeSpec := { name := "fnHashIndexGrowPlacesAlikeWithOrWithoutRoom", fn := fun _ => fun
  | [d1, d2, d3, d4, d5] => { results := [.lit (.bool true)], args := [d1, d2, d3, d4, d5] }
  | _ => none }
def fnHashIndexGrowPlacesAlikeWithOrWithoutRoomRow : OpenClaim := { program := "qxb6001121a", sum := "36ef6302d929fdf2a7bb820e03613b516883b5c29cf68d4cf04c7b748e8a0bcf", func := "example.com/strict-conf/strict-conf/zzlaws_root_b1.FnHashIndexGrowPlacesAlikeWithOrWithoutRoom", spec := "fnHashIndexGrowPlacesAlikeWithOrWithoutRoom", apart := false }
def FnHashIndexGrowPlacesAlikeWithOrWithoutRoomSaid : Prop := fnHashIndexGrowPlacesAlikeWithOrWithoutRoomRow.holds Try.pinned (OpenSpec.ofChange fnHashIndexGrowPlacesAlikeWithOrWithoutRoomSpec)

/-- ITS FALSE NEIGHBOUR: 'it returns false'. Refute it at one input. -/
def fnHashIndexGrowPlacesAlikeWithOrWithoutRoomWrong : ChangeSpec := { name := "fnHashIndexGrowPlacesAlikeWithOrWithoutRoom", fn := fun _ => fun
  | [d1, d2, d3, d4, d5] => { results := [.lit (.bool false)], args := [d1, d2, d3, d4, d5] }
  | _ => none }
def FnHashIndexGrowPlacesAlikeWithOrWithoutRoomWrongFalsely : Prop := fnHashIndexGrowPlacesAlikeWithOrWithoutRoomRow.holds Try.pinned (OpenSpec.ofChange fnHashIndexGrowPlacesAlikeWithOrWithoutRoomWrong)

/-- 'zzlaws_root_b1.FnEditDistanceSymmetricZeroOnlyOnEqualOneForSwap': WHATEVER THE INPUT: true; the input reads as it did. -/
def fnEditDistanceSymmetricZeroOnlyOnEqualOneForSwapSpec : ChangeSpec := { name := "fnEditDistanceSymmetricZeroOnlyOnEqualOneForSwap", fn := fun _ => fun
  | [d1, d2, d3] => { results := [.lit (.bool true)], args := [d1, d2, d3] }
  | _ => none }
def fnEditDistanceSymmetricZeroOnlyOnEqualOneForSwapRow : OpenClaim := { program := "qxb6001121a", sum := "36ef6302d929fdf2a7bb820e03613b516883b5c29cf68d4cf04c7b748e8a0bcf", func := "example.com/strict-conf/strict-conf/zzlaws_root_b1.FnEditDistanceSymmetricZeroOnlyOnEqualOneForSwap", spec := "fnEditDistanceSymmetricZeroOnlyOnEqualOneForSwap", apart := false }
def FnEditDistanceSymmetricZeroOnlyOnEqualOneForSwapSaid : Prop := fnEditDistanceSymmetricZeroOnlyOnEqualOneForSwapRow.holds Try.pinned (OpenSpec.ofChange fnEditDistanceSymmetricZeroOnlyOnEqualOneForSwapSpec)

/-- ITS FALSE NEIGHBOUR: 'it returns false'. Refute it at one input. -/
def fnEditDistanceSymmetricZeroOnlyOnEqualOneForSwapWrong : ChangeSpec := { name := "fnEditDistanceSymmetricZeroOnlyOnEqualOneForSwap", fn := fun _ => fun
  | [d1, d2, d3] => { results := [.lit (.bool false)], args := [d1, d2, d3] }
  | _ => none }
def FnEditDistanceSymmetricZeroOnlyOnEqualOneForSwapWrongFalsely : Prop := fnEditDistanceSymmetricZeroOnlyOnEqualOneForSwapRow.holds Try.pinned (OpenSpec.ofChange fnEditDistanceSymmetricZeroOnlyOnEqualOneForSwapWrong)

/-- 'zzlaws_root_b1.FnEditDistanceBetweenHalfLevenshteinAndLevenshtein': WHATEVER THE INPUT: true; the input reads as it did. -/
def fnEditDistanceBetweenHalfLevenshteinAndLevenshteinSpec : ChangeSpec := { name := "fnEditDistanceBetweenHalfLevenshteinAndLevenshtein", fn := fun _ => fun
  | [d1, d2] => { results := [.lit (.bool true)], args := [d1, d2] }
  | _ => none }
def fnEditDistanceBetweenHalfLevenshteinAndLevenshteinRow : OpenClaim := { program := "qxb6001121a", sum := "36ef6302d929fdf2a7bb820e03613b516883b5c29cf68d4cf04c7b748e8a0bcf", func := "example.com/strict-conf/strict-conf/zzlaws_root_b1.FnEditDistanceBetweenHalfLevenshteinAndLevenshtein", spec := "fnEditDistanceBetweenHalfLevenshteinAndLevenshtein", apart := false }
def FnEditDistanceBetweenHalfLevenshteinAndLevenshteinSaid : Prop := fnEditDistanceBetweenHalfLevenshteinAndLevenshteinRow.holds Try.pinned (OpenSpec.ofChange fnEditDistanceBetweenHalfLevenshteinAndLevenshteinSpec)

/-- ITS FALSE NEIGHBOUR: 'it returns false'. Refute it at one input. -/
def fnEditDistanceBetweenHalfLevenshteinAndLevenshteinWrong : ChangeSpec := { name := "fnEditDistanceBetweenHalfLevenshteinAndLevenshtein", fn := fun _ => fun
  | [d1, d2] => { results := [.lit (.bool false)], args := [d1, d2] }
  | _ => none }
def FnEditDistanceBetweenHalfLevenshteinAndLevenshteinWrongFalsely : Prop := fnEditDistanceBetweenHalfLevenshteinAndLevenshteinRow.holds Try.pinned (OpenSpec.ofChange fnEditDistanceBetweenHalfLevenshteinAndLevenshteinWrong)

/-- 'zzlaws_root_b1.FnEditDistanceTriangle': WHATEVER THE INPUT: true; the input reads as it did. -/
def fnEditDistanceTriangleSpec : ChangeSpec := { name := "fnEditDistanceTriangle", fn := fun _ => fun
  | [d1, d2, d3] => { results := [.lit (.bool true)], args := [d1, d2, d3] }
  | _ => none }
def fnEditDistanceTriangleRow : OpenClaim := { program := "qxb6001121a", sum := "36ef6302d929fdf2a7bb820e03613b516883b5c29cf68d4cf04c7b748e8a0bcf", func := "example.com/strict-conf/strict-conf/zzlaws_root_b1.FnEditDistanceTriangle", spec := "fnEditDistanceTriangle", apart := false }
def FnEditDistanceTriangleSaid : Prop := fnEditDistanceTriangleRow.holds Try.pinned (OpenSpec.ofChange fnEditDistanceTriangleSpec)

/-- ITS FALSE NEIGHBOUR: 'it returns false'. Refute it at one input. -/
def fnEditDistanceTriangleWrong : ChangeSpec := { name := "fnEditDistanceTriangle", fn := fun _ => fun
  | [d1, d2, d3] => { results := [.lit (.bool false)], args := [d1, d2, d3] }
  | _ => none }
def FnEditDistanceTriangleWrongFalsely : Prop := fnEditDistanceTriangleRow.holds Try.pinned (OpenSpec.ofChange fnEditDistanceTriangleWrong)

end Rows
end Go.Proofs.Qxb6001121a
