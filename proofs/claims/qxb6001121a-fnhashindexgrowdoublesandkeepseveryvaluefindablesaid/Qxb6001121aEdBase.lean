/-
  CONTRACTS for the edit distance's laws: cloneRunes, runesEqual.
-/
import Derived.Test.Qxb6001121aMem
namespace Go.Proofs.Qxb6001121a.EdBase
open Go.RowKit Go.Proofs.Qxb6001121a.Mem

theorem ret_bool {a b : Bool} (h : a = b) : Ending.returned (.bool a) = .returned (.bool b) := by rw [h]
theorem ret_int {k : IntKind} {a b : Int} (h : a = b) : Ending.returned (.int k a) = .returned (.int k b) := by rw [h]

/-- A SLICE OF n NUMBERS THAT LIES IN MEMORY, A i AT PLACE i -/
def RowIn (w : World) (k : IntKind) (ao : Option Addr) (n : Nat) (A : Nat → Int) : Prop :=
  0 < n → ∃ b o, ao = some ⟨b, o, none⟩ ∧ b < w.heap.size ∧ ∀ i, i < n → w.cell? ⟨b, o + i, none⟩ = some (.int k (A i))

theorem RowIn.below {w w' : World} {B : Nat} {k : IntKind} {ao : Option Addr} {n : Nat} {A : Nat → Int} (h : RowIn w k ao n A) (hb : Below B w w') (hB : w.heap.size ≤ B) : RowIn w' k ao n A := by
  intro hn
  obtain ⟨b, o, e, hlt, hc⟩ := h hn
  exact ⟨b, o, e, Nat.lt_of_lt_of_le hlt hb.size, fun i hi => (hb.cell (p := ⟨b, o + i, none⟩) (Nat.lt_of_lt_of_le hlt hB)).trans (hc i hi)⟩
theorem RowIn.of_rowB {w : World} {k : IntKind} {b n : Nat} {e : TypeId} {A : Nat → Int} (h : RowB w b e n fun i => .int k (A i)) : RowIn w k (some ⟨b, 0, none⟩) n A :=
  fun _ => ⟨b, 0, rfl, h.lt, fun i hi => by rw [Nat.zero_add]; exact h.cell hi⟩
theorem RowIn.drewN {w : World} {k : IntKind} {ao : Option Addr} {n : Nat} {A : Nat → Int} (h : RowIn w k ao n A) (q : Nat) : RowIn (w.drewN q) k ao n A := h

theorem info21 : (Try.prog.info? 21).map (fun i => (i.zero, i.size, i.bytes)) = some (some (.int .i32 0), 1, 4) := by kernel_rfl
theorem info3 : (Try.prog.info? 3).map (fun i => (i.zero, i.size, i.bytes)) = some (some (.int .i64 0), 1, 8) := by kernel_rfl
theorem info23 : (Try.prog.info? 23).map (fun i => (i.zero, i.size, i.bytes)) = some (some (.slice none 0 0), 1, 24) := by kernel_rfl

/-- what the copy holds after k rounds -/
def part (k : Nat) (A : Nat → Int) (j : Nat) : Value := if j < k then .int .i32 (A j) else .int .i32 0

theorem part_step {w : World} {B n k : Nat} {A : Nat → Int} (h : RowB w B 21 n (part k A)) : RowB (w.setCell ⟨B, k, none⟩ (.int .i32 (A k))) B 21 n (part (k + 1) A) :=
  (h.set k (.int .i32 (A k))).congr fun j _ => by
    simp only [part]
    by_cases e : j = k
    · subst e; simp
    · rw [if_neg e]
      by_cases e' : j < k
      · rw [if_pos e', if_pos (by omega)]
      · rw [if_neg e', if_neg (by omega)]

set_option maxHeartbeats 400000 in
theorem clone_some (p : Addr) (n c : Nat) (A : Nat → Int) (w : World) (hr : RowIn w .i32 (some p) n A) (hn : n ≤ 1048576) :
    Calls Try.prog 22 #[.slice (some p) n c] w fun e w' => e = .returned (.slice (some ⟨w.heap.size, 0, none⟩) n n) ∧ RowB w' w.heap.size 21 n (fun i => .int .i32 (A i)) ∧ Below w.heap.size w w' := by
  have q39 : ∀ (w : World) (a : Option Addr) (n c n' c' : Nat), (binOp .eql 39 (.slice a n c) (.slice none n' c')).run Try.prog w = .ok (.bool a.isNone) w := fun w a n c n' c' => Lib.run_eql_slice_nil w _ _ a n c n' c' Try.underlying39
  go_enter Try.func22, Try.ntmps22
  go_wp2_with (at_make; refine wp_mkRow _ rfl _ _ 39 rfl 21 (.int .i32 0) 4 Try.underlying39 info21 rfl _ _ n rfl rfl (by omega) (by omega) (by omega) (by omega) ?_; intro w1 hrow hbel hsz)
  go_loopw [4] (fun i wr => ∃ k : Nat, k ≤ n ∧ i = .int .i64 k ∧ RowB wr w.heap.size 21 n (part k A) ∧ Below w.heap.size w wr) (fun i _ => n - (intOf i).toNat)
  case atStart => exact ⟨0, Nat.zero_le _, rfl, hrow.congr (fun j _ => by simp [part]), hbel⟩
  case round =>
    obtain ⟨k, hk, rfl, hr1, hb1⟩ := hrel
    clear hrow hbel hsz
    by_cases hlt : k < n
    · obtain ⟨b, o, e, hbl, hc⟩ := hr (by omega)
      cases e
      have hcx : wr.cell? ⟨b, o + k, none⟩ = some (.int .i32 (A k)) := (hb1.cell (p := ⟨b, o + k, none⟩) hbl).trans (hc k hlt)
      have hcy := hr1.cell hlt
      have hfy := hr1.free k
      have R : Hid (RowB (wr.setCell ⟨w.heap.size, k, none⟩ (.int .i32 (A k))) w.heap.size 21 n (part (k + 1) A)) := part_step hr1
      have Bq : Hid (Below w.heap.size w (wr.setCell ⟨w.heap.size, k, none⟩ (.int .i32 (A k)))) := hb1.setCell (Nat.le_refl _) _
      clear hr hr1 hb1 hc
      go_wp2
      go_roundw
      case rel => exact ⟨k + 1, by omega, by go_num, R.out, Bq.out⟩
      case measure => simp [intOf]; omega
    · go_wp2
      go_ret
      exact ⟨rfl, hr1.congr (fun j hj => by simp only [part]; rw [if_pos (by omega)]), hb1⟩

theorem clone_any (ao : Option Addr) (n c : Nat) (A : Nat → Int) (w : World) (hr : RowIn w .i32 ao n A) (hn : n ≤ 1048576) :
    Calls Try.prog 22 #[.slice ao n c] w fun e w' => ∃ ao' c', e = .returned (.slice ao' n c') ∧ (0 < n → ao' = some ⟨w.heap.size, 0, none⟩ ∧ RowB w' w.heap.size 21 n (fun i => .int .i32 (A i))) ∧ Below w.heap.size w w' := by
  cases ao with
  | some p => exact (clone_some p n c A w hr hn).mono fun e w' ⟨h1, h2, h3⟩ => ⟨_, _, h1, fun _ => ⟨rfl, h2⟩, h3⟩
  | none =>
    have h0 : n = 0 := by
      by_cases h : 0 < n
      · obtain ⟨b, o, e, _⟩ := hr h; cases e
      · omega
    subst h0
    have q39 : ∀ (w : World) (a : Option Addr) (n c n' c' : Nat), (binOp .eql 39 (.slice a n c) (.slice none n' c')).run Try.prog w = .ok (.bool a.isNone) w := fun w a n c n' c' => Lib.run_eql_slice_nil w _ _ a n c n' c' Try.underlying39
    go_enter Try.func22, Try.ntmps22
    go_wp2
    go_ret
    exact ⟨none, 0, rfl, fun h => absurd h (by omega), Below.refl _ _⟩

/-- the same numbers, place by place -/
def eqB (n m : Nat) (A B : Nat → Int) : Bool := decide (n = m ∧ ∀ t, t < n → A t = B t)

set_option maxHeartbeats 400000 in
theorem equal_any (ao bo : Option Addr) (n m ca cb : Nat) (A B : Nat → Int) (w : World) (ha : RowIn w .i32 ao n A) (hb : RowIn w .i32 bo m B) (hn : n ≤ 1048576) (hm : m ≤ 1048576) :
    Calls Try.prog 24 #[.slice ao n ca, .slice bo m cb] w fun e w' => e = .returned (.bool (eqB n m A B)) ∧ ∃ q, w' = w.drewN q := by
  by_cases hnm : n = m
  · subst hnm
    go_enter Try.func24, Try.ntmps24
    go_wp2
    go_loopw [5] (fun i wr => ∃ k : Nat, k ≤ n ∧ i = .int .i64 k ∧ (∀ t, t < k → A t = B t) ∧ ∃ q, wr = w.drewN q) (fun i _ => n - (intOf i).toNat)
    case atStart => exact ⟨0, Nat.zero_le _, rfl, fun t ht => by omega, 0, rfl⟩
    case round =>
      obtain ⟨k, hk, rfl, hpre, q, rfl⟩ := hrel
      have HP : Hid (∀ t, t < k → A t = B t) := hpre
      clear hpre
      by_cases hlt : k < n
      · obtain ⟨b1, o1, e1, hb1, hc1⟩ := ha (by omega)
        obtain ⟨b2, o2, e2, hb2, hc2⟩ := hb (by omega)
        cases e1
        cases e2
        have h1 := hc1 k hlt
        have h2 := hc2 k hlt
        have hlt' : (k : Int) < (n : Int) := by omega
        clear hc1 hc2 ha hb
        by_cases he : A k = B k
        · have he' : (A k != B k) = false := by simp [he]
          have HE : Hid (A k = B k) := he
          clear he
          go_wp2
          go_quiet (fail)
          go_wp2
          go_roundw
          case rel => exact ⟨k + 1, by omega, by go_num, fun t ht => by
            by_cases e : t = k
            · rw [e]; exact HE.out
            · exact HP.out t (by omega), _, rfl⟩
          case measure => simp [intOf]; omega
        · have he' : (A k != B k) = true := by simp [he]
          have HE : Hid (¬ A k = B k) := he
          clear he
          go_wp2
          go_quiet (fail)
          go_wp2
          go_ret
          exact ⟨ret_bool (decide_eq_false (fun h => HE.out (h.2 k hlt))).symm, q + nq, by rw [World.drewN_drewN]⟩
      · go_wp2
        go_ret
        exact ⟨ret_bool (decide_eq_true ⟨rfl, fun t ht => HP.out t (by omega)⟩).symm, _, rfl⟩
  · have hne : ((n : Int) != (m : Int)) = true := by simp; omega
    go_enter Try.func24, Try.ntmps24
    go_wp2
    go_ret
    exact ⟨ret_bool (decide_eq_false (fun h => hnm h.1)).symm, 0, rfl⟩

end Go.Proofs.Qxb6001121a.EdBase
