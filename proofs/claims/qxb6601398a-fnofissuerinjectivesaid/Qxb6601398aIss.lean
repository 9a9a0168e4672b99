/-
  CONTRACTS of ofIssuer.
-/
import Derived.Test.Qxb6601398aRows
import Derived.WalkKit
import Derived.ProofKit
import Derived.ShutString
namespace Go.Proofs.Qxb6601398a.Iss
open Go.ChangeShapes Go.WideShapes Go.ChangeAt Go.RowKit

theorem ret_bool {a b : Bool} (h : a = b) : Ending.returned (.bool a) = .returned (.bool b) := by rw [h]
theorem toList_data (s : ByteArray) : s.toList = s.data.toList := ByteArray.toList_eq s
theorem toList_not_empty (s : ByteArray) (h : 1 ≤ s.size) : s.toList.isEmpty = false := by
  rw [toList_data]
  cases e : s.data.toList with
  | nil =>
    have hl : s.data.toList.length = s.size := Array.length_toList
    rw [e] at hl
    have : (0 : Nat) = s.size := hl
    omega
  | cons => rfl
theorem toList_empty (s : ByteArray) (h : s.size = 0) : s.toList.isEmpty = true := by
  rw [toList_data]
  have : s.data.toList = [] := List.eq_nil_of_length_eq_zero (Array.length_toList.trans h)
  rw [this]; rfl

/-- ', issuer ' -/
def pre : ByteArray := { data := #[44, 32, 105, 115, 115, 117, 101, 114, 32] }
/-- what ofIssuer makes of a name -/
def named (s : ByteArray) : ByteArray := if s.size = 0 then { data := #[] } else pre ++ s

theorem of_any (s : ByteArray) (w : World) (hs : s.size ≤ 1048576) : Calls Try.prog 16 #[.string s] w fun e w' => e = .returned (.string (named s)) ∧ w = w' := by
  by_cases h : s.size = 0
  · have hne := toList_empty s h
    have e : named s = { data := #[] } := by rw [named, if_pos h]
    rw [e]
    go_enter Try.func16, Try.ntmps16
    go_wp2
    go_ret
    exact ⟨rfl, rfl⟩
  · have hne := toList_not_empty s (by omega)
    have e : named s = pre ++ s := by rw [named, if_neg h]
    rw [e]
    go_enter Try.func16, Try.ntmps16
    go_wp2
    go_ret
    exact ⟨rfl, rfl⟩
theorem zz_any (s : ByteArray) (w : World) (hs : s.size ≤ 1048576) : Calls Try.prog 14 #[.string s] w fun e w' => e = .returned (.string (named s)) ∧ w = w' := by
  go_enter Try.func14, Try.ntmps14
  go_wp2_with (go_at_call 16; refine (of_any _ _ hs).mono ?_; rintro e w' ⟨rfl, rfl⟩)
  go_ret
  exact ⟨rfl, rfl⟩

theorem pre_list (s : ByteArray) : (pre ++ s).toList = pre.toList ++ s.toList := by
  rw [toList_data, toList_data, toList_data, ByteArray.data_append, Array.toList_append]
theorem size_zero {s : ByteArray} (h : s.size = 0) : s.toList = [] := by
  rw [toList_data]; exact List.eq_nil_of_length_eq_zero (Array.length_toList.trans h)
theorem size_pos {s : ByteArray} (h : ¬ s.size = 0) : s.toList ≠ [] := by
  rw [toList_data]
  intro e
  have hl : s.data.toList.length = s.size := Array.length_toList
  rw [e] at hl
  exact h hl.symm

/-- THE PLAIN LAW: two names are alike exactly when the issuers are -/
theorem named_inj (a b : ByteArray) : (((named a).toList == (named b).toList) == (a.toList == b.toList)) = true := by
  have key : (named a).toList = (named b).toList ↔ a.toList = b.toList := by
    have en : (({ data := #[] } : ByteArray)).toList = [] := size_zero rfl
    have hp : pre.toList ≠ [] := size_pos (by decide)
    unfold named
    by_cases ha : a.size = 0
    · by_cases hb : b.size = 0
      · rw [if_pos ha, if_pos hb, size_zero ha, size_zero hb]; simp
      · rw [if_pos ha, if_neg hb, size_zero ha, pre_list, en]
        exact ⟨fun h => absurd h.symm (by simp [hp]), fun h => absurd h.symm (size_pos hb)⟩
    · by_cases hb : b.size = 0
      · rw [if_neg ha, if_pos hb, size_zero hb, pre_list, en]
        exact ⟨fun h => absurd h (by simp [hp]), fun h => absurd h (size_pos ha)⟩
      · rw [if_neg ha, if_neg hb, pre_list, pre_list]
        exact ⟨fun h => List.append_cancel_left h, fun h => by rw [h]⟩
  rw [beq_iff_eq, Bool.eq_iff_iff, beq_iff_eq, beq_iff_eq]
  exact key

end Go.Proofs.Qxb6601398a.Iss
