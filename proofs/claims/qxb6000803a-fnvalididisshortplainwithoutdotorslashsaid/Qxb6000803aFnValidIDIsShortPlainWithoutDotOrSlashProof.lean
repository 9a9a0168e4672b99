/-
  THE SHELL OF A PROOF OF 'Rows.FnValidIDIsShortPlainWithoutDotOrSlashSaid' ('example.com/zhaomu/zhaomu/zzlaws_internal_files_b1.FnValidIDIsShortPlainWithoutDotOrSlash'), WRITTEN BY PROGRAM (proof-skeleton.mjs) off the guide's own print for that function. Not trusted: Lean checks it.
  THE HOLE IS FILLED: the walk and the plain law are the prover's; all else is the template.
-/
import Derived.Test.Qxb6000803aRows
import Derived.WalkKit
import Derived.ProofKit
import Derived.OpenShut
import Derived.ShutString
import Derived.Test.Qxb6000803aBase
namespace Go.Proofs.Qxb6000803a.fnValidIDIsShortPlainWithoutDotOrSlash
open Go.ChangeShapes Go.WideShapes Go.ChangeAt Go.RowKit
open Go.ChangeMaps (open_string shut_string)
set_option linter.unusedVariables false      -- a walk need not use every 'w<i>' (that an integer argument fits its kind)

theorem own : ownKnob Try.prog.godebug = none := by kernel_rfl

/-! ### THE PLAIN LAW -/
/-- neither a dot nor a slash -/
def ndN (n : Int) : Bool := decide (n ≤ 45 ∨ 48 ≤ n)
theorem id_split (n : Int) : Base.idN n = (Base.plN n && ndN n) := by
  unfold Base.idN Base.plN ndN
  rw [← Bool.decide_and]
  exact decide_eq_decide.mpr (by omega)
theorem all_split (l : List UInt8) : Base.allP Base.idN l = (Base.allP Base.plN l && Base.allP ndN l) := by
  induction l with
  | nil => rfl
  | cons c l ih =>
    unfold Base.allP at *
    simp only [List.all_cons]
    rw [ih, id_split]
    cases Base.plN (c.toNat : Int) <;> cases ndN (c.toNat : Int) <;> cases List.all l (fun c => Base.plN (c.toNat : Int)) <;> rfl
/-- what the loop has found by place k -/
def nd (s : ByteArray) (k : Nat) : Bool := Base.allP ndN (s.data.toList.take k)
theorem nd_zero (s : ByteArray) : nd s 0 = true := rfl
theorem nd_whole (s : ByteArray) (k : Nat) (h : s.size ≤ k) : nd s k = Base.allP ndN s.data.toList := Base.allP_whole ndN s k h
theorem nd_keep (s : ByteArray) (k : Nat) (h : k < s.size) (hn : ndN ((s[k].toNat : Nat) : Int) = true) : nd s (k + 1) = nd s k := by
  unfold nd; rw [Base.take_snoc s k h]; unfold Base.allP; rw [List.all_append]; simp [hn]
theorem nd_drop (s : ByteArray) (k : Nat) (h : k < s.size) (hn : ndN ((s[k].toNat : Nat) : Int) = false) : nd s (k + 1) = false := by
  unfold nd; rw [Base.take_snoc s k h]; unfold Base.allP; rw [List.all_append]; simp [hn]
theorem want_is (s : ByteArray) (h1 : 1 ≤ s.size) (h32 : s.size ≤ 32) (k : Nat) (hk : s.size ≤ k) : Base.validB s = (Base.plainB s && nd s k) := by
  rw [nd_whole s k hk]; unfold Base.validB Base.plainB; rw [decide_eq_true ⟨h1, h32⟩, all_split]; simp
theorem want_not (s : ByteArray) (h : ¬ (1 ≤ s.size ∧ s.size ≤ 32)) : Base.validB s = false := by
  unfold Base.validB; rw [decide_eq_false h]; simp
theorem bool_val {a b : Bool} (h : a = b) : Value.bool a = Value.bool b := by rw [h]

/-! ### STEP 1: THE WALK: the Go text returns true. 'Grown w w'': the world has at most new blocks (Derived/RowKit3.lean). Part the cases AHEAD of 'go_enter' where a test parts the walk; take each callee by a contract of your own. -/
theorem walk (a0 : ByteArray) (w0 : a0.size ≤ maxLen) (w : World) :
    Calls Try.prog 6 #[.string a0] w fun e w' => e = .returned (.bool true) ∧ Grown w w' := by
  by_cases hbig : 65536 < a0.size
  · by_cases hbig2 : 1048576 < a0.size
    · unfold maxLen at w0
      go_enter Try.func6, Try.ntmps6
      go_wp2
      go_ret
      exact ⟨rfl, by repeat (first | exact Grown.refl _ | apply Grown.drew | apply Grown.alloc)⟩
    · go_enter Try.func6, Try.ntmps6
      go_wp2
      go_ret
      exact ⟨rfl, by repeat (first | exact Grown.refl _ | apply Grown.drew | apply Grown.alloc)⟩
  · go_enter Try.func6, Try.ntmps6
    go_wp2
    go_loop [3, 4] (fun b i => ∃ k : Nat, k ≤ a0.size ∧ i = .int .i64 k ∧ b = .bool (nd a0 k)) (fun _ i => a0.size - (intOf i).toNat)
    case atStart => exact ⟨0, Nat.zero_le _, rfl, rfl⟩
    case round =>
      obtain ⟨k, hk, rfl, rfl⟩ := hrel
      by_cases hlt : k < a0.size
      · rcases (show ((a0[k].toNat : Nat) : Int) ≤ 45 ∨ ((46 : Int) ≤ ((a0[k].toNat : Nat) : Int) ∧ ((a0[k].toNat : Nat) : Int) ≤ 46) ∨ ((47 : Int) ≤ ((a0[k].toNat : Nat) : Int) ∧ ((a0[k].toNat : Nat) : Int) ≤ 47) ∨ (48 : Int) ≤ ((a0[k].toNat : Nat) : Int) from by omega) with h | ⟨h, h'⟩ | ⟨h, h'⟩ | h
        all_goals
          try (have e46 : (((a0[k].toNat : Nat) : Int) == 46) = false := beq_eq_false_iff_ne.mpr (by omega))
          try (have e46 : (((a0[k].toNat : Nat) : Int) == 46) = true := beq_iff_eq.mpr (by omega))
          try (have e47 : (((a0[k].toNat : Nat) : Int) == 47) = false := beq_eq_false_iff_ne.mpr (by omega))
          try (have e47 : (((a0[k].toNat : Nat) : Int) == 47) = true := beq_iff_eq.mpr (by omega))
          go_wp2
          go_round
          case rel => exact ⟨k + 1, by omega, by go_num, bool_val (by first | exact (nd_keep a0 k hlt (by simp only [ndN]; exact decide_eq_true (by omega))).symm | exact (nd_drop a0 k hlt (by simp only [ndN]; exact decide_eq_false (by omega))).symm)⟩
          case measure => simp [intOf]; omega
      · by_cases h1 : 1 ≤ a0.size
        · by_cases h32 : a0.size ≤ 32
          · have hw : Hid (Base.validB a0 = (Base.plainB a0 && nd a0 k)) := want_is a0 h1 h32 k (by omega)
            go_wp2_with (first | (go_at_call 8; refine (Base.zzplain_any _ _ w0).mono ?_; rintro e w' ⟨rfl, rfl⟩) | (go_at_call 11; refine (Base.zzvalid_any _ _ w0).mono ?_; rintro e w' ⟨rfl, rfl⟩))
            · have hp : Base.plainB a0 = true := by assumption
              go_ret
              exact ⟨Base.ret_bool (by rw [hw.out, hp]; simp), by repeat (first | exact Grown.refl _ | apply Grown.drew | apply Grown.alloc)⟩
            · have hp : ¬ Base.plainB a0 = true := by assumption
              go_ret
              exact ⟨Base.ret_bool (by rw [hw.out, Bool.eq_false_iff.mpr hp]; simp), by repeat (first | exact Grown.refl _ | apply Grown.drew | apply Grown.alloc)⟩
          · have hw : Hid (Base.validB a0 = false) := want_not a0 (by omega)
            go_wp2_with (first | (go_at_call 8; refine (Base.zzplain_any _ _ w0).mono ?_; rintro e w' ⟨rfl, rfl⟩) | (go_at_call 11; refine (Base.zzvalid_any _ _ w0).mono ?_; rintro e w' ⟨rfl, rfl⟩))
            go_ret
            exact ⟨Base.ret_bool (by rw [hw.out]; rfl), by repeat (first | exact Grown.refl _ | apply Grown.drew | apply Grown.alloc)⟩
        · have hw : Hid (Base.validB a0 = false) := want_not a0 (by omega)
          go_wp2_with (first | (go_at_call 8; refine (Base.zzplain_any _ _ w0).mono ?_; rintro e w' ⟨rfl, rfl⟩) | (go_at_call 11; refine (Base.zzvalid_any _ _ w0).mono ?_; rintro e w' ⟨rfl, rfl⟩))
          go_ret
          exact ⟨Base.ret_bool (by rw [hw.out]; rfl), by repeat (first | exact Grown.refl _ | apply Grown.drew | apply Grown.alloc)⟩

/-! ### THE ROW's STEP: WRITTEN OUT: LEAVE IT -/
set_option maxRecDepth 100000 in
theorem lifted (os : Os) (started : os.Started) (H : Type) (enc : TypeId × Value → H) :
    ReturnsInHanded {} Try.checked os 6 .any (Rows.fnValidIDIsShortPlainWithoutDotOrSlashSpec.pre6 enc Try.prog Try.f6 Rows.fnValidIDIsShortPlainWithoutDotOrSlashRow.domain false) (Rows.fnValidIDIsShortPlainWithoutDotOrSlashSpec.post enc Try.prog Try.f6 false true false false) := by
  refine returnsInHanded_of_change (C := Try.checked) own started (by kernel_rfl) Try.func6
    (ChangeSpec.witness6 (enc := enc) (C := Try.checked) false ⟨#[], #[.string ByteArray.empty], []⟩ 8 (by kernel_rfl) (by kernel_rfl) (by kernel_rfl) (by kernel_rfl)) ?_
  intro W base args ds gs before hval0 hW hcnd _
  have hval : ∀ (j : Nat) t v, Try.f6.params[j]? = some t → args[j]? = some v → Value.okWide Try.prog W .any base t v := hval0
  have hW' := hW
  obtain ⟨p, q, hA0, hV, rfl, hfz, hnd⟩ := hW
  have hA : DataW.TrodAll enc Try.prog W 0 (fun _ => true) true Try.f6.params.toList args.toList ds p := hA0
  rw [Try.params6] at hA hval
  obtain ⟨v0, vs0, d0, ds0, p0, q0, hargs, rfl, rfl, h0, r0⟩ := trodAll_cons hA
  obtain ⟨rfl, rfl, rfl⟩ := trodAll_nil r0
  obtain rfl : args = #[v0] := by cases args; simp_all
  obtain ⟨rfl, rfl⟩ := trodVars_none hV
  obtain ⟨a0, rfl, rfl, rfl, w0⟩ := open_string Try.underlying9 (hval 0 9 v0 rfl rfl) h0
  clear hA0 hval0
  simp only [List.append_nil] at hW'
  refine (walk a0 w0 W).mono fun e W' ⟨he, hg⟩ => ?_
  subst he
  exact ⟨_, rfl, post_of_same (pa := []) (pv := []) hW' (fun _ _ _ => (trodAll_cons_mk (shut_bool Try.underlying4 _) trodAll_mk0)) (fun sp _ => (trodAll_cons_mk (shut_string Try.underlying9 w0) trodAll_mk0)) (fun _ _ => rfl) rfl
    (hg.frame _) hg.2.1 (ok_one (by kernel_rfl) rfl (okWide_bool_mk Try.underlying4 _))⟩

theorem over : Rows.fnValidIDIsShortPlainWithoutDotOrSlashRow.holds Try.pinned (OpenSpec.ofChange Rows.fnValidIDIsShortPlainWithoutDotOrSlashSpec) :=
  OpenClaim.holds_of_wide 6 Try.f6 rfl rfl rfl rfl rfl rfl rfl ⟨rfl, rfl, rfl, rfl, rfl⟩ rfl rfl rfl rfl rfl (by kernel_rfl) Try.func6 (by kernel_rfl)
    (of_decide_eq_true (by kernel_rfl)) (by unfold Func.isWrapper; first | (rw [if_pos (by decide +kernel)]; kernel_rfl) | (rw [if_neg (by decide +kernel)]; exact ⟨rfl, rfl⟩))
    (fun os started H enc _ => lifted os started H enc)

/-- ████ THE STATEMENT ████ -/
theorem proved : Rows.FnValidIDIsShortPlainWithoutDotOrSlashSaid :=
  over
#print axioms proved
end Go.Proofs.Qxb6000803a.fnValidIDIsShortPlainWithoutDotOrSlash
