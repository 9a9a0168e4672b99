/-
  CONTRACTS: copyStrings, sizeOfStrings, the bound on lengths.
-/
import Derived.Test.Qxb6601398aMem
namespace Go.Proofs.Qxb6601398a.GrBase
open Go.RowKit Go.Proofs.Qxb6601398a.Mem

theorem info9 : (Try.prog.info? 9).map (fun i => (i.zero, i.size, i.bytes)) = some (some (.string ⟨#[]⟩), 1, 16) := by kernel_rfl
theorem info40 : (Try.prog.info? 40).map (fun i => (i.zero, i.size, i.bytes)) = some (some (.string ⟨#[]⟩), 1, 16) := by kernel_rfl
theorem info41 : (Try.prog.info? 41).map (fun i => (i.zero, i.size, i.bytes)) = some (some (.string ⟨#[]⟩), 1, 16) := by kernel_rfl
theorem info4 : (Try.prog.info? 4).map (fun i => (i.zero, i.size, i.bytes)) = some (some (.bool false), 1, 1) := by kernel_rfl

/-- A SLICE OF n STRINGS THAT LIES IN MEMORY -/
def RowS (w : World) (ao : Option Addr) (n : Nat) (A : Nat → ByteArray) : Prop :=
  0 < n → ∃ b o, ao = some ⟨b, o, none⟩ ∧ b < w.heap.size ∧ ∀ i, i < n → w.cell? ⟨b, o + i, none⟩ = some (.string (A i))
theorem RowS.below {w w' : World} {B : Nat} {ao : Option Addr} {n : Nat} {A : Nat → ByteArray} (h : RowS w ao n A) (hb : Below B w w') (hB : w.heap.size ≤ B) : RowS w' ao n A := by
  intro hn
  obtain ⟨b, o, e, hlt, hc⟩ := h hn
  exact ⟨b, o, e, Nat.lt_of_lt_of_le hlt hb.size, fun i hi => (hb.cell (p := ⟨b, o + i, none⟩) (Nat.lt_of_lt_of_le hlt hB)).trans (hc i hi)⟩
theorem RowS.of_rowB {w : World} {b n : Nat} {e : TypeId} {A : Nat → ByteArray} (h : RowB w b e n fun i => .string (A i)) : RowS w (some ⟨b, 0, none⟩) n A :=
  fun _ => ⟨b, 0, rfl, h.lt, fun i hi => by rw [Nat.zero_add]; exact h.cell hi⟩

/-- what a copy holds after k rounds -/
def partS (k : Nat) (A : Nat → ByteArray) (j : Nat) : Value := if j < k then .string (A j) else .string ⟨#[]⟩
theorem partS_step {w : World} {B n k : Nat} {e : TypeId} {A : Nat → ByteArray} (h : RowB w B e n (partS k A)) : RowB (w.setCell ⟨B, k, none⟩ (.string (A k))) B e n (partS (k + 1) A) :=
  (h.set k (.string (A k))).congr fun j _ => by
    simp only [partS]
    by_cases e : j = k
    · subst e; simp
    · rw [if_neg e]
      by_cases e' : j < k
      · rw [if_pos e', if_pos (by omega)]
      · rw [if_neg e', if_neg (by omega)]

set_option maxHeartbeats 400000 in
theorem copy_some (p : Addr) (n c : Nat) (A : Nat → ByteArray) (w : World) (hr : RowS w (some p) n A) (hn : n ≤ 1048576) :
    Calls Try.prog 9 #[.slice (some p) n c] w fun e w' => e = .returned (.slice (some ⟨w.heap.size, 0, none⟩) n n) ∧ RowB w' w.heap.size 9 n (fun i => .string (A i)) ∧ Below w.heap.size w w' := by
  have q22 : ∀ (w : World) (a : Option Addr) (n c n' c' : Nat), (binOp .eql 22 (.slice a n c) (.slice none n' c')).run Try.prog w = .ok (.bool a.isNone) w := fun w a n c n' c' => Lib.run_eql_slice_nil w _ _ a n c n' c' Try.underlying22
  go_enter Try.func9, Try.ntmps9
  go_wp2_with (at_make; refine wp_mkRow _ rfl _ _ 22 rfl 9 (.string ⟨#[]⟩) 16 Try.underlying22 info9 rfl _ _ n rfl rfl (by omega) (by omega) (by omega) (by omega) ?_; intro w1 hrow hbel hsz)
  go_loopw [4] (fun i wr => ∃ k : Nat, k ≤ n ∧ i = .int .i64 k ∧ RowB wr w.heap.size 9 n (partS k A) ∧ Below w.heap.size w wr) (fun i _ => n - (intOf i).toNat)
  case atStart => exact ⟨0, Nat.zero_le _, rfl, hrow.congr (fun j _ => by simp [partS]), hbel⟩
  case round =>
    obtain ⟨k, hk, rfl, hr1, hb1⟩ := hrel
    clear hrow hbel hsz
    by_cases hlt : k < n
    · obtain ⟨b, o, e, hbl, hc⟩ := hr (by omega)
      cases e
      have hcx : wr.cell? ⟨b, o + k, none⟩ = some (.string (A k)) := (hb1.cell (p := ⟨b, o + k, none⟩) hbl).trans (hc k hlt)
      have hcy := hr1.cell hlt
      have hfy := hr1.free k
      have R : Hid (RowB (wr.setCell ⟨w.heap.size, k, none⟩ (.string (A k))) w.heap.size 9 n (partS (k + 1) A)) := partS_step hr1
      have Bq : Hid (Below w.heap.size w (wr.setCell ⟨w.heap.size, k, none⟩ (.string (A k)))) := hb1.setCell (Nat.le_refl _) _
      clear hr hr1 hb1 hc
      go_wp2
      go_roundw
      case rel => exact ⟨k + 1, by omega, by go_num, R.out, Bq.out⟩
      case measure => simp [intOf]; omega
    · go_wp2
      go_ret
      exact ⟨rfl, hr1.congr (fun j hj => by simp only [partS]; rw [if_pos (by omega)]), hb1⟩

theorem copy_any (ao : Option Addr) (n c : Nat) (A : Nat → ByteArray) (w : World) (hr : RowS w ao n A) (hn : n ≤ 1048576) :
    Calls Try.prog 9 #[.slice ao n c] w fun e w' => ∃ ao' c', e = .returned (.slice ao' n c') ∧ RowS w' ao' n A ∧ Below w.heap.size w w' := by
  cases ao with
  | some p => exact (copy_some p n c A w hr hn).mono fun e w' ⟨h1, h2, h3⟩ => ⟨_, _, h1, RowS.of_rowB h2, h3⟩
  | none =>
    have h0 : n = 0 := by
      by_cases h : 0 < n
      · obtain ⟨b, o, e, _⟩ := hr h; cases e
      · omega
    subst h0
    have q22 : ∀ (w : World) (a : Option Addr) (n c n' c' : Nat), (binOp .eql 22 (.slice a n c) (.slice none n' c')).run Try.prog w = .ok (.bool a.isNone) w := fun w a n c n' c' => Lib.run_eql_slice_nil w _ _ a n c n' c' Try.underlying22
    go_enter Try.func9, Try.ntmps9
    go_wp2
    go_ret
    exact ⟨none, 0, rfl, fun h => absurd h (by omega), Below.refl _ _⟩

/-- what sizeOfStrings gives -/
def SizePost (n : Nat) (w : World) (e : Ending) (w' : World) : Prop := ∃ s : Nat, e = .returned (.int .i64 (s : Int)) ∧ w = w' ∧ s ≤ 1048577 ∧ (s ≤ 1048576 → n ≤ 65536)

set_option maxHeartbeats 1000000 in
theorem size_any (ao : Option Addr) (n c : Nat) (A : Nat → ByteArray) (w : World) (hr : RowS w ao n A) (hn : n ≤ 9223372036854775807) : Calls Try.prog 8 #[.slice ao n c] w fun e w' => SizePost n w e w' := by
  by_cases hbig : 1048576 < n
  · go_enter Try.func8, Try.ntmps8
    go_wp2
    go_ret
    exact ⟨1048577, rfl, rfl, by omega, fun h => by omega⟩
  · go_enter Try.func8, Try.ntmps8
    go_wp2
    go_loop [3, 4] (fun sv i => ∃ k s : Nat, k ≤ n ∧ 16 * n ≤ s ∧ s ≤ 16777216 ∧ i = .int .i64 k ∧ sv = .int .i64 s) (fun _ i => n - (intOf i).toNat)
    case atStart => exact ⟨0, 16 * n, Nat.zero_le _, Nat.le_refl _, by omega, rfl, by go_num⟩
    case round =>
      obtain ⟨k, s, hk, hs1, hs2, rfl, rfl⟩ := hrel
      by_cases hlt : k < n
      · obtain ⟨b, o, e, hbl, hc⟩ := hr (by omega)
        cases e
        have hcx := hc k hlt
        obtain ⟨t, ht⟩ : ∃ t, A k = t := ⟨_, rfl⟩
        rw [ht] at hcx
        clear hc hr ht
        by_cases h1 : 1048576 < t.size
        · go_wp2
          go_ret
          exact ⟨1048577, rfl, rfl, by omega, fun h => by omega⟩
        · by_cases h2 : 1048576 < s + t.size
          · go_wp2
            go_ret
            exact ⟨1048577, rfl, rfl, by omega, fun h => by omega⟩
          · go_wp2
            go_round
            case rel => exact ⟨k + 1, s + t.size, by omega, by omega, by omega, by go_num, by go_num⟩
            case measure => simp [intOf]; omega
      · by_cases h2 : 1048576 < s
        · go_wp2
          go_ret
          exact ⟨1048577, rfl, rfl, by omega, fun h => by omega⟩
        · go_wp2
          go_ret
          exact ⟨s, rfl, rfl, by omega, fun h => by omega⟩

end Go.Proofs.Qxb6601398a.GrBase
