/-
  THE CONTRACTS of the functions on the roads: plain, validID, zzInSet, their doors, and the bound on lengths.
-/
import Derived.Test.Qxb6000803aRows
import Derived.WalkKit
import Derived.ProofKit
import Derived.ShutString
import Derived.Laws.BytesArg
import Derived.Laws.IdiomStrings
namespace Go.Proofs.Qxb6000803a.Base
open Go.ChangeShapes Go.WideShapes Go.ChangeAt Go.RowKit

theorem ret_bool {a b : Bool} (h : a = b) : Ending.returned (.bool a) = .returned (.bool b) := by rw [h]

/-- the bytes that 'plain' lets by -/
def plN (n : Int) : Bool := decide ((97 ≤ n ∧ n ≤ 122) ∨ (65 ≤ n ∧ n ≤ 90) ∨ (45 ≤ n ∧ n ≤ 57) ∨ n = 95)
/-- the bytes that 'validID' lets by -/
def idN (n : Int) : Bool := decide ((97 ≤ n ∧ n ≤ 122) ∨ (65 ≤ n ∧ n ≤ 90) ∨ (48 ≤ n ∧ n ≤ 57) ∨ n = 95 ∨ n = 45)
def allP (p : Int → Bool) (l : List UInt8) : Bool := l.all fun c => p c.toNat
def plainB (s : ByteArray) : Bool := allP plN s.data.toList
def validB (s : ByteArray) : Bool := decide (1 ≤ s.size ∧ s.size ≤ 32) && allP idN s.data.toList
def hasN (l : List UInt8) (n : Int) : Bool := l.any fun c => decide ((c.toNat : Int) = n)

theorem mem_at (s : ByteArray) (k : Nat) (h : k < s.size) : s[k] ∈ s.data.toList := by
  have e : s[k] = s.data[k]'h := rfl
  rw [e]
  exact Array.mem_toList_iff.mpr (Array.getElem_mem h)
theorem take_snoc (s : ByteArray) (k : Nat) (h : k < s.size) : s.data.toList.take (k + 1) = s.data.toList.take k ++ [s[k]] := by
  rw [List.take_succ_eq_append_getElem (by simpa using h)]; rfl
theorem allP_snoc (p : Int → Bool) (s : ByteArray) (k : Nat) (h : k < s.size) (h1 : allP p (s.data.toList.take k) = true) (h2 : p ((s[k].toNat : Nat) : Int) = true) :
    allP p (s.data.toList.take (k + 1)) = true := by
  rw [take_snoc s k h]; unfold allP at *; rw [List.all_append, h1]; simp [h2]
theorem allP_whole (p : Int → Bool) (s : ByteArray) (k : Nat) (h : s.size ≤ k) : allP p (s.data.toList.take k) = allP p s.data.toList := by
  rw [List.take_of_length_le (by simpa using h)]
theorem allP_miss (p : Int → Bool) (s : ByteArray) (k : Nat) (h : k < s.size) (h2 : p ((s[k].toNat : Nat) : Int) = false) : allP p s.data.toList = false := by
  unfold allP
  rw [List.all_eq_false]
  exact ⟨s[k], mem_at s k h, by rw [h2]; simp⟩
theorem hasN_hit (s : ByteArray) (k : Nat) (n : Int) (h : k < s.size) (h2 : ((s[k].toNat : Nat) : Int) = n) : hasN s.data.toList n = true := by
  unfold hasN
  rw [List.any_eq_true]
  exact ⟨s[k], mem_at s k h, by simpa using h2⟩
theorem hasN_snoc (s : ByteArray) (k : Nat) (n : Int) (h : k < s.size) (h1 : hasN (s.data.toList.take k) n = false) (h2 : ¬ ((s[k].toNat : Nat) : Int) = n) : hasN (s.data.toList.take (k + 1)) n = false := by
  rw [take_snoc s k h]; unfold hasN at *; rw [List.any_append, h1]; simp [h2]
theorem hasN_whole (s : ByteArray) (k : Nat) (n : Int) (h : s.size ≤ k) : hasN (s.data.toList.take k) n = hasN s.data.toList n := by
  rw [List.take_of_length_le (by simpa using h)]

theorem toList_data (s : ByteArray) : s.toList = s.data.toList := by
  exact ByteArray.toList_eq s
theorem toList_not_empty (s : ByteArray) (h : 1 ≤ s.size) : s.toList.isEmpty = false := by
  rw [toList_data]
  cases e : s.data.toList with
  | nil =>
    have hl : s.data.toList.length = s.size := Array.length_toList
    rw [e] at hl
    have : (0 : Nat) = s.size := hl
    omega
  | cons => rfl
theorem toList_empty (s : ByteArray) (h : s.size = 0) : s.toList.isEmpty = true := by
  rw [toList_data]
  have : s.data.toList = [] := List.eq_nil_of_length_eq_zero (Array.length_toList.trans h)
  rw [this]; rfl

set_option maxHeartbeats 1600000 in
theorem plain_any (s : ByteArray) (w : World) (hs : s.size ≤ maxLen) :
    Calls Try.prog 14 #[.string s] w fun e w' => e = .returned (.bool (plainB s)) ∧ w' = w := by
  unfold maxLen at hs
  go_enter Try.func14, Try.ntmps14
  go_wp2
  go_loop [3] (fun i => ∃ k : Nat, k ≤ s.size ∧ i = .int .i64 k ∧ allP plN (s.data.toList.take k) = true) (fun i => s.size - (intOf i).toNat)
  case atStart => exact ⟨0, Nat.zero_le _, rfl, rfl⟩
  case round =>
    obtain ⟨k, hk, rfl, hall⟩ := hrel
    have HA : Hid (allP plN (s.data.toList.take k) = true) := hall
    clear hall
    by_cases hlt : k < s.size
    · have hb : (0 : Int) ≤ ((s[k].toNat : Nat) : Int) := by omega
      rcases (show ((s[k].toNat : Nat) : Int) ≤ 44 ∨ ((45 : Int) ≤ ((s[k].toNat : Nat) : Int) ∧ ((s[k].toNat : Nat) : Int) ≤ 45) ∨ ((46 : Int) ≤ ((s[k].toNat : Nat) : Int) ∧ ((s[k].toNat : Nat) : Int) ≤ 46) ∨ ((47 : Int) ≤ ((s[k].toNat : Nat) : Int) ∧ ((s[k].toNat : Nat) : Int) ≤ 47) ∨ ((48 : Int) ≤ ((s[k].toNat : Nat) : Int) ∧ ((s[k].toNat : Nat) : Int) ≤ 57)
        ∨ ((58 : Int) ≤ ((s[k].toNat : Nat) : Int) ∧ ((s[k].toNat : Nat) : Int) ≤ 64) ∨ ((65 : Int) ≤ ((s[k].toNat : Nat) : Int) ∧ ((s[k].toNat : Nat) : Int) ≤ 90) ∨ ((91 : Int) ≤ ((s[k].toNat : Nat) : Int) ∧ ((s[k].toNat : Nat) : Int) ≤ 94) ∨ ((95 : Int) ≤ ((s[k].toNat : Nat) : Int) ∧ ((s[k].toNat : Nat) : Int) ≤ 95)
        ∨ ((96 : Int) ≤ ((s[k].toNat : Nat) : Int) ∧ ((s[k].toNat : Nat) : Int) ≤ 96) ∨ ((97 : Int) ≤ ((s[k].toNat : Nat) : Int) ∧ ((s[k].toNat : Nat) : Int) ≤ 122) ∨ (123 : Int) ≤ ((s[k].toNat : Nat) : Int) from by omega) with h | ⟨h, h'⟩ | ⟨h, h'⟩ | ⟨h, h'⟩ | ⟨h, h'⟩ | ⟨h, h'⟩ | ⟨h, h'⟩ | ⟨h, h'⟩ | ⟨h, h'⟩ | ⟨h, h'⟩ | ⟨h, h'⟩ | h
      all_goals
        try (have e46 : (((s[k].toNat : Nat) : Int) == 46) = false := beq_eq_false_iff_ne.mpr (by omega))
        try (have e46 : (((s[k].toNat : Nat) : Int) == 46) = true := beq_iff_eq.mpr (by omega))
        try (have e45 : (((s[k].toNat : Nat) : Int) == 45) = false := beq_eq_false_iff_ne.mpr (by omega))
        try (have e45 : (((s[k].toNat : Nat) : Int) == 45) = true := beq_iff_eq.mpr (by omega))
        try (have e95 : (((s[k].toNat : Nat) : Int) == 95) = false := beq_eq_false_iff_ne.mpr (by omega))
        try (have e95 : (((s[k].toNat : Nat) : Int) == 95) = true := beq_iff_eq.mpr (by omega))
        try (have e47 : (((s[k].toNat : Nat) : Int) == 47) = false := beq_eq_false_iff_ne.mpr (by omega))
        try (have e47 : (((s[k].toNat : Nat) : Int) == 47) = true := beq_iff_eq.mpr (by omega))
        try (have d57 : decide (((s[k].toNat : Nat) : Int) ≤ 57) = false := decide_eq_false (by omega))
        try (have d90 : decide (((s[k].toNat : Nat) : Int) ≤ 90) = false := decide_eq_false (by omega))
        try (have d122 : decide (((s[k].toNat : Nat) : Int) ≤ 122) = false := decide_eq_false (by omega))
        go_wp2
        first
          | (go_round
             case rel => exact ⟨k + 1, by omega, by go_num, allP_snoc plN s k hlt HA.out (by simp only [plN]; exact decide_eq_true (by omega))⟩
             case measure => simp [intOf]; omega)
          | (go_ret
             exact ⟨ret_bool (allP_miss plN s k hlt (by simp only [plN]; exact decide_eq_false (by omega))).symm, rfl⟩)
    · go_wp2
      go_ret
      exact ⟨ret_bool (by unfold plainB; rw [← allP_whole plN s k (by omega)]; exact HA.out.symm), rfl⟩


set_option maxHeartbeats 1600000 in
theorem valid_loop (s : ByteArray) (w : World) (h1 : 1 ≤ s.size) (h32 : s.size ≤ 32) :
    Calls Try.prog 15 #[.string s] w fun e w' => e = .returned (.bool (validB s)) ∧ w' = w := by
  have hne : s.toList.isEmpty = false := toList_not_empty s h1
  have h32' : ¬ (32 : Int) < (s.size : Int) := by omega
  have hv : validB s = allP idN s.data.toList := by unfold validB; rw [decide_eq_true ⟨h1, h32⟩]; simp
  rw [hv]
  clear hv
  go_enter Try.func15, Try.ntmps15
  go_wp2
  go_loop [3] (fun i => ∃ k : Nat, k ≤ s.size ∧ i = .int .i64 k ∧ allP idN (s.data.toList.take k) = true) (fun i => s.size - (intOf i).toNat)
  case atStart => exact ⟨0, Nat.zero_le _, rfl, rfl⟩
  case round =>
    obtain ⟨k, hk, rfl, hall⟩ := hrel
    have HA : Hid (allP idN (s.data.toList.take k) = true) := hall
    clear hall
    by_cases hlt : k < s.size
    · have hb : (0 : Int) ≤ ((s[k].toNat : Nat) : Int) := by omega
      rcases (show ((s[k].toNat : Nat) : Int) ≤ 44 ∨ ((45 : Int) ≤ ((s[k].toNat : Nat) : Int) ∧ ((s[k].toNat : Nat) : Int) ≤ 45) ∨ ((46 : Int) ≤ ((s[k].toNat : Nat) : Int) ∧ ((s[k].toNat : Nat) : Int) ≤ 47) ∨ ((48 : Int) ≤ ((s[k].toNat : Nat) : Int) ∧ ((s[k].toNat : Nat) : Int) ≤ 57)
        ∨ ((58 : Int) ≤ ((s[k].toNat : Nat) : Int) ∧ ((s[k].toNat : Nat) : Int) ≤ 64) ∨ ((65 : Int) ≤ ((s[k].toNat : Nat) : Int) ∧ ((s[k].toNat : Nat) : Int) ≤ 90) ∨ ((91 : Int) ≤ ((s[k].toNat : Nat) : Int) ∧ ((s[k].toNat : Nat) : Int) ≤ 94) ∨ ((95 : Int) ≤ ((s[k].toNat : Nat) : Int) ∧ ((s[k].toNat : Nat) : Int) ≤ 95)
        ∨ ((96 : Int) ≤ ((s[k].toNat : Nat) : Int) ∧ ((s[k].toNat : Nat) : Int) ≤ 96) ∨ ((97 : Int) ≤ ((s[k].toNat : Nat) : Int) ∧ ((s[k].toNat : Nat) : Int) ≤ 122) ∨ (123 : Int) ≤ ((s[k].toNat : Nat) : Int) from by omega) with h | ⟨h, h'⟩ | ⟨h, h'⟩ | ⟨h, h'⟩ | ⟨h, h'⟩ | ⟨h, h'⟩ | ⟨h, h'⟩ | ⟨h, h'⟩ | ⟨h, h'⟩ | ⟨h, h'⟩ | h
      all_goals
        try (have e45 : (((s[k].toNat : Nat) : Int) == 45) = false := beq_eq_false_iff_ne.mpr (by omega))
        try (have e45 : (((s[k].toNat : Nat) : Int) == 45) = true := beq_iff_eq.mpr (by omega))
        try (have e95 : (((s[k].toNat : Nat) : Int) == 95) = false := beq_eq_false_iff_ne.mpr (by omega))
        try (have e95 : (((s[k].toNat : Nat) : Int) == 95) = true := beq_iff_eq.mpr (by omega))
        try (have d57 : decide (((s[k].toNat : Nat) : Int) ≤ 57) = false := decide_eq_false (by omega))
        try (have d90 : decide (((s[k].toNat : Nat) : Int) ≤ 90) = false := decide_eq_false (by omega))
        try (have d122 : decide (((s[k].toNat : Nat) : Int) ≤ 122) = false := decide_eq_false (by omega))
        go_wp2
        first
          | (go_round
             case rel => exact ⟨k + 1, by omega, by go_num, allP_snoc idN s k hlt HA.out (by simp only [idN]; exact decide_eq_true (by omega))⟩
             case measure => simp [intOf]; omega)
          | (go_ret
             exact ⟨ret_bool (allP_miss idN s k hlt (by simp only [idN]; exact decide_eq_false (by omega))).symm, rfl⟩)
    · go_wp2
      go_ret
      exact ⟨ret_bool (by rw [← allP_whole idN s k (by omega)]; exact HA.out.symm), rfl⟩

theorem valid_any (s : ByteArray) (w : World) (hs : s.size ≤ maxLen) :
    Calls Try.prog 15 #[.string s] w fun e w' => e = .returned (.bool (validB s)) ∧ w' = w := by
  unfold maxLen at hs
  by_cases h1 : 1 ≤ s.size
  · by_cases h32 : s.size ≤ 32
    · exact valid_loop s w h1 h32
    · have hne : s.toList.isEmpty = false := toList_not_empty s h1
      have h32' : (32 : Int) < (s.size : Int) := by omega
      have hv : false = validB s := by unfold validB; rw [decide_eq_false (by omega)]; simp
      go_enter Try.func15, Try.ntmps15
      go_wp2
      go_ret
      exact ⟨ret_bool hv, rfl⟩
  · have hne : s.toList.isEmpty = true := toList_empty s (by omega)
    have hv : false = validB s := by unfold validB; rw [decide_eq_false (by omega)]; simp
    go_enter Try.func15, Try.ntmps15
    go_wp2
    go_ret
    exact ⟨ret_bool hv, rfl⟩

theorem zzvalid_any (s : ByteArray) (w : World) (hs : s.size ≤ maxLen) :
    Calls Try.prog 11 #[.string s] w fun e w' => e = .returned (.bool (validB s)) ∧ w' = w := by
  go_enter Try.func11, Try.ntmps11
  go_wp2_with (go_at_call 15; refine (valid_any _ _ hs).mono ?_; rintro e w' ⟨rfl, rfl⟩)
  go_ret
  exact ⟨rfl, rfl⟩

theorem zzplain_any (s : ByteArray) (w : World) (hs : s.size ≤ maxLen) :
    Calls Try.prog 8 #[.string s] w fun e w' => e = .returned (.bool (plainB s)) ∧ w' = w := by
  go_enter Try.func8, Try.ntmps8
  go_wp2_with (go_at_call 14; refine (plain_any _ _ hs).mono ?_; rintro e w' ⟨rfl, rfl⟩)
  go_ret
  exact ⟨rfl, rfl⟩

theorem inSet_any (n : Int) (s : ByteArray) (w : World) (hs : s.size ≤ maxLen) :
    Calls Try.prog 9 #[.int .u8 n, .string s] w fun e w' => e = .returned (.bool (hasN s.data.toList n)) ∧ w' = w := by
  unfold maxLen at hs
  go_enter Try.func9, Try.ntmps9
  go_wp2
  go_loop [5] (fun i => ∃ k : Nat, k ≤ s.size ∧ i = .int .i64 k ∧ hasN (s.data.toList.take k) n = false) (fun i => s.size - (intOf i).toNat)
  case atStart => exact ⟨0, Nat.zero_le _, rfl, rfl⟩
  case round =>
    obtain ⟨k, hk, rfl, hall⟩ := hrel
    have HA : Hid (hasN (s.data.toList.take k) n = false) := hall
    clear hall
    by_cases hlt : k < s.size
    · by_cases he : (((s[k].toNat : Nat) : Int) == n) = true
      · go_wp2
        go_ret
        exact ⟨ret_bool (hasN_hit s k n hlt (by simpa using he)).symm, rfl⟩
      · have he' : (((s[k].toNat : Nat) : Int) == n) = false := by simpa using he
        clear he
        go_wp2
        go_round
        case rel => exact ⟨k + 1, by omega, by go_num, hasN_snoc s k n hlt HA.out (by simpa using he')⟩
        case measure => simp [intOf]; omega
    · go_wp2
      go_ret
      exact ⟨ret_bool (by rw [← hasN_whole s k n (by omega)]; exact HA.out.symm), rfl⟩

/-- a number that fits a byte is a byte's -/
theorem byte_of (n : Int) (h : (Lit.int .u8 n).wf = true) : ∃ u : UInt8, n = (u.toNat : Int) := by
  have hb : 0 ≤ n ∧ n ≤ 255 := by simpa [Lit.wf, IntKind.min, IntKind.max, IntKind.signed, IntKind.bits] using h
  refine ⟨UInt8.ofNat n.toNat, ?_⟩
  rw [UInt8.toNat_ofNat', Nat.mod_eq_of_lt (by omega)]
  omega

/-- 'string([]byte{c})' -/
theorem conv_one (u : UInt8) (w : World) : (convert 23 9 (.slice (some ⟨w.heap.size, 0, none⟩) 1 1)).run Try.prog (w.alloc (.cells #[.int .u8 (u.toNat : Int)] 5)) = .ok (.string ⟨#[u]⟩) (w.alloc (.cells #[.int .u8 (u.toNat : Int)] 5)) :=
  run_convert_bytes_back (P := Try.prog) (w.alloc (.cells #[.int .u8 (u.toNat : Int)] 5)) 23 9 5 ⟨w.heap.size, 0, none⟩ 1 [u] Try.underlying23 Try.underlying5 Try.underlying9 (fun j hj => by
    have h0 : j = 0 := by simpa using hj
    subst h0
    simp [Addr.add])

theorem one_short (u : UInt8) : (⟨#[u]⟩ : ByteArray).size ≤ maxLen := by show 1 ≤ maxLen; decide
theorem plain_byte (u : UInt8) : plainB ⟨#[u]⟩ = plN u.toNat := by simp [plainB, allP]
theorem valid_byte (u : UInt8) : validB ⟨#[u]⟩ = idN u.toNat := by simp [validB, allP, ByteArray.size]

end Go.Proofs.Qxb6000803a.Base
