/-
  CONTRACTS for the hash index's law: the clones, the premise.
-/
import Derived.Test.Qxb6001121aHxRoom
import Derived.Test.Qxb6001121aHxSort
namespace Go.Proofs.Qxb6001121a.HxBase
open Go.RowKit Go.Proofs.Qxb6001121a.Mem Go.Proofs.Qxb6001121a.EdBase Go.Proofs.Qxb6001121a.HxMem Go.Proofs.Qxb6001121a.HxBits Go.Proofs.Qxb6001121a.HxPlain Go.Proofs.Qxb6001121a.HxWalkA

theorem info25 : (Try.prog.info? 25).map (fun i => (i.zero, i.size, i.bytes)) = some (some (.int .u32 0), 1, 4) := by kernel_rfl
theorem info35 : (Try.prog.info? 35).map (fun i => (i.zero, i.size, i.bytes)) = some (some (.int .u64 0), 1, 8) := by kernel_rfl

/-- what the copy holds after k rounds -/
def partU32 (k : Nat) (A : Nat → Int) (j : Nat) : Value := if j < k then .int .u32 (A j) else .int .u32 0

theorem partU32_step {w : World} {B n k : Nat} {A : Nat → Int} (h : RowB w B 25 n (partU32 k A)) : RowB (w.setCell ⟨B, k, none⟩ (.int .u32 (A k))) B 25 n (partU32 (k + 1) A) :=
  (h.set k (.int .u32 (A k))).congr fun j _ => by
    simp only [partU32]
    by_cases e : j = k
    · subst e; simp
    · rw [if_neg e]
      by_cases e' : j < k
      · rw [if_pos e', if_pos (by omega)]
      · rw [if_neg e', if_neg (by omega)]

set_option maxHeartbeats 400000 in
theorem cloneU32_some (p : Addr) (n c : Nat) (A : Nat → Int) (w : World) (hr : RowIn w .u32 (some p) n A) (hn : n ≤ 1048576) :
    Calls Try.prog 10 #[.slice (some p) n c] w fun e w' => e = .returned (.slice (some ⟨w.heap.size, 0, none⟩) n n) ∧ RowB w' w.heap.size 25 n (fun i => .int .u32 (A i)) ∧ Below w.heap.size w w' := by
  have q22 : ∀ (w : World) (a : Option Addr) (n c n' c' : Nat), (binOp .eql 22 (.slice a n c) (.slice none n' c')).run Try.prog w = .ok (.bool a.isNone) w := fun w a n c n' c' => Lib.run_eql_slice_nil w _ _ a n c n' c' Try.underlying22
  go_enter Try.func10, Try.ntmps10
  go_wp2_with (at_make; refine wp_mkRow _ rfl _ _ 22 rfl 25 (.int .u32 0) 4 Try.underlying22 info25 rfl _ _ n rfl rfl (by omega) (by omega) (by omega) (by omega) ?_; intro w1 hrow hbel hsz)
  go_loopw [4] (fun i wr => ∃ k : Nat, k ≤ n ∧ i = .int .i64 k ∧ RowB wr w.heap.size 25 n (partU32 k A) ∧ Below w.heap.size w wr) (fun i _ => n - (intOf i).toNat)
  case atStart => exact ⟨0, Nat.zero_le _, rfl, hrow.congr (fun j _ => by simp [partU32]), hbel⟩
  case round =>
    obtain ⟨k, hk, rfl, hr1, hb1⟩ := hrel
    clear hrow hbel hsz
    by_cases hlt : k < n
    · obtain ⟨b, o, e, hbl, hc⟩ := hr (by omega)
      cases e
      have hcx : wr.cell? ⟨b, o + k, none⟩ = some (.int .u32 (A k)) := (hb1.cell (p := ⟨b, o + k, none⟩) hbl).trans (hc k hlt)
      have hcy := hr1.cell hlt
      have hfy := hr1.free k
      have R : Hid (RowB (wr.setCell ⟨w.heap.size, k, none⟩ (.int .u32 (A k))) w.heap.size 25 n (partU32 (k + 1) A)) := partU32_step hr1
      have Bq : Hid (Below w.heap.size w (wr.setCell ⟨w.heap.size, k, none⟩ (.int .u32 (A k)))) := hb1.setCell (Nat.le_refl _) _
      clear hr hr1 hb1 hc
      go_wp2
      go_roundw
      case rel => exact ⟨k + 1, by omega, by go_num, R.out, Bq.out⟩
      case measure => simp [intOf]; omega
    · go_wp2
      go_ret
      exact ⟨rfl, hr1.congr (fun j hj => by simp only [partU32]; rw [if_pos (by omega)]), hb1⟩

theorem cloneU32_any (ao : Option Addr) (n c : Nat) (A : Nat → Int) (w : World) (hr : RowIn w .u32 ao n A) (hn : n ≤ 1048576) :
    Calls Try.prog 10 #[.slice ao n c] w fun e w' => ∃ ao' c', e = .returned (.slice ao' n c') ∧ (0 < n → ao' = some ⟨w.heap.size, 0, none⟩ ∧ RowB w' w.heap.size 25 n (fun i => .int .u32 (A i))) ∧ Below w.heap.size w w' := by
  cases ao with
  | some p => exact (cloneU32_some p n c A w hr hn).mono fun e w' ⟨h1, h2, h3⟩ => ⟨_, _, h1, fun _ => ⟨rfl, h2⟩, h3⟩
  | none =>
    have h0 : n = 0 := by
      by_cases h : 0 < n
      · obtain ⟨b, o, e, _⟩ := hr h; cases e
      · omega
    subst h0
    have q22 : ∀ (w : World) (a : Option Addr) (n c n' c' : Nat), (binOp .eql 22 (.slice a n c) (.slice none n' c')).run Try.prog w = .ok (.bool a.isNone) w := fun w a n c n' c' => Lib.run_eql_slice_nil w _ _ a n c n' c' Try.underlying22
    go_enter Try.func10, Try.ntmps10
    go_wp2
    go_ret
    exact ⟨none, 0, rfl, fun h => absurd h (by omega), Below.refl _ _⟩

/-- what the copy holds after k rounds -/
def partInts (k : Nat) (A : Nat → Int) (j : Nat) : Value := if j < k then .int .i64 (A j) else .int .i64 0

theorem partInts_step {w : World} {B n k : Nat} {A : Nat → Int} (h : RowB w B 3 n (partInts k A)) : RowB (w.setCell ⟨B, k, none⟩ (.int .i64 (A k))) B 3 n (partInts (k + 1) A) :=
  (h.set k (.int .i64 (A k))).congr fun j _ => by
    simp only [partInts]
    by_cases e : j = k
    · subst e; simp
    · rw [if_neg e]
      by_cases e' : j < k
      · rw [if_pos e', if_pos (by omega)]
      · rw [if_neg e', if_neg (by omega)]

set_option maxHeartbeats 400000 in
theorem cloneInts_some (p : Addr) (n c : Nat) (A : Nat → Int) (w : World) (hr : RowIn w .i64 (some p) n A) (hn : n ≤ 1048576) :
    Calls Try.prog 11 #[.slice (some p) n c] w fun e w' => e = .returned (.slice (some ⟨w.heap.size, 0, none⟩) n n) ∧ RowB w' w.heap.size 3 n (fun i => .int .i64 (A i)) ∧ Below w.heap.size w w' := by
  have q23 : ∀ (w : World) (a : Option Addr) (n c n' c' : Nat), (binOp .eql 23 (.slice a n c) (.slice none n' c')).run Try.prog w = .ok (.bool a.isNone) w := fun w a n c n' c' => Lib.run_eql_slice_nil w _ _ a n c n' c' Try.underlying23
  go_enter Try.func11, Try.ntmps11
  go_wp2_with (at_make; refine wp_mkRow _ rfl _ _ 23 rfl 3 (.int .i64 0) 8 Try.underlying23 info3 rfl _ _ n rfl rfl (by omega) (by omega) (by omega) (by omega) ?_; intro w1 hrow hbel hsz)
  go_loopw [4] (fun i wr => ∃ k : Nat, k ≤ n ∧ i = .int .i64 k ∧ RowB wr w.heap.size 3 n (partInts k A) ∧ Below w.heap.size w wr) (fun i _ => n - (intOf i).toNat)
  case atStart => exact ⟨0, Nat.zero_le _, rfl, hrow.congr (fun j _ => by simp [partInts]), hbel⟩
  case round =>
    obtain ⟨k, hk, rfl, hr1, hb1⟩ := hrel
    clear hrow hbel hsz
    by_cases hlt : k < n
    · obtain ⟨b, o, e, hbl, hc⟩ := hr (by omega)
      cases e
      have hcx : wr.cell? ⟨b, o + k, none⟩ = some (.int .i64 (A k)) := (hb1.cell (p := ⟨b, o + k, none⟩) hbl).trans (hc k hlt)
      have hcy := hr1.cell hlt
      have hfy := hr1.free k
      have R : Hid (RowB (wr.setCell ⟨w.heap.size, k, none⟩ (.int .i64 (A k))) w.heap.size 3 n (partInts (k + 1) A)) := partInts_step hr1
      have Bq : Hid (Below w.heap.size w (wr.setCell ⟨w.heap.size, k, none⟩ (.int .i64 (A k)))) := hb1.setCell (Nat.le_refl _) _
      clear hr hr1 hb1 hc
      go_wp2
      go_roundw
      case rel => exact ⟨k + 1, by omega, by go_num, R.out, Bq.out⟩
      case measure => simp [intOf]; omega
    · go_wp2
      go_ret
      exact ⟨rfl, hr1.congr (fun j hj => by simp only [partInts]; rw [if_pos (by omega)]), hb1⟩

theorem cloneInts_any (ao : Option Addr) (n c : Nat) (A : Nat → Int) (w : World) (hr : RowIn w .i64 ao n A) (hn : n ≤ 1048576) :
    Calls Try.prog 11 #[.slice ao n c] w fun e w' => ∃ ao' c', e = .returned (.slice ao' n c') ∧ (0 < n → ao' = some ⟨w.heap.size, 0, none⟩ ∧ RowB w' w.heap.size 3 n (fun i => .int .i64 (A i))) ∧ Below w.heap.size w w' := by
  cases ao with
  | some p => exact (cloneInts_some p n c A w hr hn).mono fun e w' ⟨h1, h2, h3⟩ => ⟨_, _, h1, fun _ => ⟨rfl, h2⟩, h3⟩
  | none =>
    have h0 : n = 0 := by
      by_cases h : 0 < n
      · obtain ⟨b, o, e, _⟩ := hr h; cases e
      · omega
    subst h0
    have q23 : ∀ (w : World) (a : Option Addr) (n c n' c' : Nat), (binOp .eql 23 (.slice a n c) (.slice none n' c')).run Try.prog w = .ok (.bool a.isNone) w := fun w a n c n' c' => Lib.run_eql_slice_nil w _ _ a n c n' c' Try.underlying23
    go_enter Try.func11, Try.ntmps11
    go_wp2
    go_ret
    exact ⟨none, 0, rfl, fun h => absurd h (by omega), Below.refl _ _⟩

/-- what the copy holds after k rounds -/
def partU64 (k : Nat) (A : Nat → Int) (j : Nat) : Value := if j < k then .int .u64 (A j) else .int .u64 0

theorem partU64_step {w : World} {B n k : Nat} {A : Nat → Int} (h : RowB w B 35 n (partU64 k A)) : RowB (w.setCell ⟨B, k, none⟩ (.int .u64 (A k))) B 35 n (partU64 (k + 1) A) :=
  (h.set k (.int .u64 (A k))).congr fun j _ => by
    simp only [partU64]
    by_cases e : j = k
    · subst e; simp
    · rw [if_neg e]
      by_cases e' : j < k
      · rw [if_pos e', if_pos (by omega)]
      · rw [if_neg e', if_neg (by omega)]

set_option maxHeartbeats 400000 in
theorem cloneU64_some (p : Addr) (n c : Nat) (A : Nat → Int) (w : World) (hr : RowIn w .u64 (some p) n A) (hn : n ≤ 1048576) :
    Calls Try.prog 12 #[.slice (some p) n c] w fun e w' => e = .returned (.slice (some ⟨w.heap.size, 0, none⟩) n n) ∧ RowB w' w.heap.size 35 n (fun i => .int .u64 (A i)) ∧ Below w.heap.size w w' := by
  have q24 : ∀ (w : World) (a : Option Addr) (n c n' c' : Nat), (binOp .eql 24 (.slice a n c) (.slice none n' c')).run Try.prog w = .ok (.bool a.isNone) w := fun w a n c n' c' => Lib.run_eql_slice_nil w _ _ a n c n' c' Try.underlying24
  go_enter Try.func12, Try.ntmps12
  go_wp2_with (at_make; refine wp_mkRow _ rfl _ _ 24 rfl 35 (.int .u64 0) 8 Try.underlying24 info35 rfl _ _ n rfl rfl (by omega) (by omega) (by omega) (by omega) ?_; intro w1 hrow hbel hsz)
  go_loopw [4] (fun i wr => ∃ k : Nat, k ≤ n ∧ i = .int .i64 k ∧ RowB wr w.heap.size 35 n (partU64 k A) ∧ Below w.heap.size w wr) (fun i _ => n - (intOf i).toNat)
  case atStart => exact ⟨0, Nat.zero_le _, rfl, hrow.congr (fun j _ => by simp [partU64]), hbel⟩
  case round =>
    obtain ⟨k, hk, rfl, hr1, hb1⟩ := hrel
    clear hrow hbel hsz
    by_cases hlt : k < n
    · obtain ⟨b, o, e, hbl, hc⟩ := hr (by omega)
      cases e
      have hcx : wr.cell? ⟨b, o + k, none⟩ = some (.int .u64 (A k)) := (hb1.cell (p := ⟨b, o + k, none⟩) hbl).trans (hc k hlt)
      have hcy := hr1.cell hlt
      have hfy := hr1.free k
      have R : Hid (RowB (wr.setCell ⟨w.heap.size, k, none⟩ (.int .u64 (A k))) w.heap.size 35 n (partU64 (k + 1) A)) := partU64_step hr1
      have Bq : Hid (Below w.heap.size w (wr.setCell ⟨w.heap.size, k, none⟩ (.int .u64 (A k)))) := hb1.setCell (Nat.le_refl _) _
      clear hr hr1 hb1 hc
      go_wp2
      go_roundw
      case rel => exact ⟨k + 1, by omega, by go_num, R.out, Bq.out⟩
      case measure => simp [intOf]; omega
    · go_wp2
      go_ret
      exact ⟨rfl, hr1.congr (fun j hj => by simp only [partU64]; rw [if_pos (by omega)]), hb1⟩

theorem cloneU64_any (ao : Option Addr) (n c : Nat) (A : Nat → Int) (w : World) (hr : RowIn w .u64 ao n A) (hn : n ≤ 1048576) :
    Calls Try.prog 12 #[.slice ao n c] w fun e w' => ∃ ao' c', e = .returned (.slice ao' n c') ∧ (0 < n → ao' = some ⟨w.heap.size, 0, none⟩ ∧ RowB w' w.heap.size 35 n (fun i => .int .u64 (A i))) ∧ Below w.heap.size w w' := by
  cases ao with
  | some p => exact (cloneU64_some p n c A w hr hn).mono fun e w' ⟨h1, h2, h3⟩ => ⟨_, _, h1, fun _ => ⟨rfl, h2⟩, h3⟩
  | none =>
    have h0 : n = 0 := by
      by_cases h : 0 < n
      · obtain ⟨b, o, e, _⟩ := hr h; cases e
      · omega
    subst h0
    have q24 : ∀ (w : World) (a : Option Addr) (n c n' c' : Nat), (binOp .eql 24 (.slice a n c) (.slice none n' c')).run Try.prog w = .ok (.bool a.isNone) w := fun w a n c n' c' => Lib.run_eql_slice_nil w _ _ a n c n' c' Try.underlying24
    go_enter Try.func12, Try.ntmps12
    go_wp2
    go_ret
    exact ⟨none, 0, rfl, fun h => absurd h (by omega), Below.refl _ _⟩

theorem and_pred (n : Nat) (hn : n ≤ 1048576) : bits .and .i64 (n : Int) ((n : Int) - 1) = ((n &&& (n - 1) : Nat) : Int) := by
  by_cases h : n = 0
  · subst h; decide
  · have e : ((n : Int) - 1) = ((n - 1 : Nat) : Int) := by omega
    rw [e, i64_and_nat n (n - 1) (by omega) (by omega)]

/-- what indexPremise finds -/
def Prem (n m l r : Nat) (G R : Nat → Int) (gen : Int) : Prop := m = n ∧ l = n ∧ n &&& (n - 1) = 0 ∧ (∀ i, i < n → G i ≤ gen) ∧ ∀ j, j < r → R j ≤ gen

def premB (n m l r : Nat) (G R : Nat → Int) (gen : Int) : Bool := decide (m = n ∧ l = n ∧ n &&& (n - 1) = 0 ∧ (∀ i, i < n → G i ≤ gen) ∧ ∀ j, j < r → R j ≤ gen)
theorem prem_of {n m l r : Nat} {G R : Nat → Int} {gen : Int} (h : premB n m l r G R gen = true) : Prem n m l r G R gen := by unfold Prem; unfold premB at h; exact of_decide_eq_true h
theorem prem_yes {n m l r : Nat} {G R : Nat → Int} {gen : Int} (h : Prem n m l r G R gen) : true = premB n m l r G R gen := by unfold Prem at h; unfold premB; exact (decide_eq_true h).symm
theorem prem_no {n m l r : Nat} {G R : Nat → Int} {gen : Int} (h : ¬ Prem n m l r G R gen) : false = premB n m l r G R gen := by unfold Prem at h; unfold premB; exact (decide_eq_false h).symm

set_option maxRecDepth 100000 in
set_option maxHeartbeats 1000000 in
theorem premise_any (ga va ha ra : Option Addr) (n m l r cg cv ch cr : Nat) (G R : Nat → Int) (gen : Int) (w : World) (rg : RowIn w .u32 ga n G) (rr : RowIn w .u32 ra r R) (hn : n ≤ 4096) (hm : m ≤ 4096) (hl : l ≤ 4096) (hr : r ≤ 8192) :
    Calls Try.prog 9 #[.slice ga n cg, .slice va m cv, .slice ha l ch, .slice ra r cr, .int .u32 gen] w fun e w' => e = .returned (.bool (premB n m l r G R gen)) ∧ w' = w := by
  have hand := and_pred n (by omega)
  by_cases hmn : m = n
  · subst hmn
    by_cases hln : l = m
    · subst hln
      by_cases hp : l &&& (l - 1) = 0
      · have hz : (((l &&& (l - 1) : Nat) : Int) != 0) = false := by rw [hp]; rfl
        obtain ⟨z, hzz⟩ : ∃ z : Int, ((l &&& (l - 1) : Nat) : Int) = z := ⟨_, rfl⟩
        rw [hzz] at hand hz
        have HP := HxWalkA.hide hp
        clear hp hzz
        go_enter Try.func9, Try.ntmps9
        go_wp2_with fail
        go_loop [12] (fun i => ∃ k : Nat, k ≤ l ∧ i = .int .i64 k ∧ ∀ t, t < k → G t ≤ gen) (fun i => l - (intOf i).toNat)
        case atStart => exact ⟨0, Nat.zero_le _, rfl, fun t ht => by omega⟩
        case round =>
          obtain ⟨k, hk, rfl, hpre⟩ := hrel
          have HG := HxWalkA.hide hpre
          clear hpre hand hz
          by_cases hlt : k < l
          · obtain ⟨b1, o1, e1, hb1, hc1⟩ := rg (by omega)
            cases e1
            have q1 := hc1 k hlt
            by_cases hle : G k ≤ gen
            · go_wp2
              go_round
              case rel => exact ⟨k + 1, by omega, by go_num, fun t ht => by
                by_cases e : t = k
                · rw [e]; exact hle
                · exact HG.out t (by omega)⟩
              case measure => simp [intOf]; omega
            · go_wp2
              go_ret
              exact ⟨ret_bool (prem_no fun h => absurd (h.2.2.2.1 k hlt) (by omega)), rfl⟩
          · obtain rfl : k = l := by omega
            go_wp2_with fail
            go_loop [13] (fun i => ∃ j : Nat, j ≤ r ∧ i = .int .i64 j ∧ ∀ t, t < j → R t ≤ gen) (fun i => r - (intOf i).toNat)
            case atStart => exact ⟨0, Nat.zero_le _, rfl, fun t ht => by omega⟩
            case round =>
              obtain ⟨j, hj, rfl, hpre⟩ := hrel
              have HR := HxWalkA.hide hpre
              clear hpre
              by_cases hlt2 : j < r
              · obtain ⟨b1, o1, e1, hb1, hc1⟩ := rr (by omega)
                cases e1
                have q1 := hc1 j hlt2
                by_cases hle : R j ≤ gen
                · go_wp2
                  go_round
                  case rel => exact ⟨j + 1, by omega, by go_num, fun t ht => by
                    by_cases e : t = j
                    · rw [e]; exact hle
                    · exact HR.out t (by omega)⟩
                  case measure => simp [intOf]; omega
                · go_wp2
                  go_ret
                  exact ⟨ret_bool (prem_no fun h => absurd (h.2.2.2.2 j hlt2) (by omega)), rfl⟩
              · go_wp2
                go_ret
                exact ⟨ret_bool (prem_yes ⟨rfl, rfl, HP.out, HG.out, fun t ht => HR.out t (by omega)⟩), rfl⟩
      · have hz : (((l &&& (l - 1) : Nat) : Int) != 0) = true := by simpa using hp
        obtain ⟨z, hzz⟩ : ∃ z : Int, ((l &&& (l - 1) : Nat) : Int) = z := ⟨_, rfl⟩
        rw [hzz] at hand hz
        have HP := HxWalkA.hide hp
        clear hp hzz
        go_enter Try.func9, Try.ntmps9
        go_wp2
        go_ret
        exact ⟨ret_bool (prem_no fun h => HP.out h.2.2.1), rfl⟩
    · have h1 : ((l : Int) != (m : Int)) = true := by simp; omega
      go_enter Try.func9, Try.ntmps9
      go_wp2
      go_ret
      exact ⟨ret_bool (prem_no fun h => hln h.2.1), rfl⟩
  · have h1 : ((m : Int) != (n : Int)) = true := by simp; omega
    go_enter Try.func9, Try.ntmps9
    go_wp2
    go_ret
    exact ⟨ret_bool (prem_no fun h => hmn h.1), rfl⟩

theorem premise_at (ga va ha ra : Option Addr) (n m l r cg cv ch cr : Nat) (G R : Nat → Int) (gen : Int) (w : World) (rg : RowIn w .u32 ga n G) (rr : RowIn w .u32 ra r R) (hn : n ≤ 4096) (hm : m ≤ 4096) (hl : l ≤ 4096) (hr : r ≤ 8192) (b : Bool) (hb : premB n m l r G R gen = b) :
    Calls Try.prog 9 #[.slice ga n cg, .slice va m cv, .slice ha l ch, .slice ra r cr, .int .u32 gen] w fun e w' => e = .returned (.bool b) ∧ w = w' := by
  subst hb
  exact (premise_any ga va ha ra n m l r cg cv ch cr G R gen w rg rr hn hm hl hr).mono fun e w' h => ⟨h.1, h.2.symm⟩

/-- 'make([]T, 0, n)' -/
theorem wp_mkCap {P : Program} (w : World) {ops : Array Oper} {rest : List Oper} {o : Oper} {a : Act} {Q : Exit → Act → World → Prop}
    (hg : o.guard = none) (l c : Operand) (t : TypeId) (hop : o.op = Op.makeSlice t l c) (e : TypeId) (z : Value) (bytes : Nat) (ht : P.underlying t = some (.slice e))
    (hinfo : (P.info? e).map (fun i => (i.zero, i.size, i.bytes)) = some (some z, 1, bytes)) (hz1 : z.cells = #[z])
    (C : Int) (n : Nat) (hl : a.eval l = .int .i64 0) (hc : a.eval c = .int .i64 C) (hC : C = (n : Int)) (b2 : bytes * n ≤ 281474976710656) (b3 : n ≤ 9223372036854775807)
    (hK : ∀ w', RowB w' w.heap.size e n (fun _ => z) → Below w.heap.size w w' → w'.heap.size = w.heap.size + 1 → wpList P ops Q rest (a.put o.dst (.slice (some ⟨w.heap.size, 0, none⟩) 0 n)) w') :
    wpList P ops Q (o :: rest) a w := by
  refine wpList_plain hg fun K hK' => ?_
  obtain ⟨i, hi, hz, hs, hb⟩ := info_parts hinfo
  have hbb : ((i.bytes * n : Nat) : Int) ≤ 281474976710656 := by rw [hb]; omega
  rw [Int.natCast_mul] at hbb
  have hrun := run_make (P := P) w t e i z ht hi hz .i64 .i64 0 (n : Int) (Int.le_refl _) (by omega) hbb (by omega)
  subst hC
  simp only [Int.toNat_natCast, Int.toNat_zero, hs, Nat.mul_one, hz1] at hrun
  unfold Oper.wp
  simp [execOp, hop, hl, hc, hrun, Result.andThen]
  exact hK' _ _ (hK _ (RowB.made w e z n) ((Below.refl _ _).alloc (Nat.le_refl _) _) (by simp))

/-- 'append(xs, x)' within the capacity, xs a row of the call's own -/
theorem wp_appFit {P : Program} (w : World) {ops : Array Oper} {rest : List Oper} {o : Oper} {a : Act} {Q : Exit → Act → World → Prop}
    (hg : o.guard = none) (s x : Operand) (t : TypeId) (hop : o.op = Op.call { callee := Callee.builtin Builtin.append, args := #[s, x], argTypes := #[t, t] }) (e : TypeId) (z : Value) (bytes : Nat) (ht : P.underlying t = some (.slice e))
    (hinfo : (P.info? e).map (fun i => (i.zero, i.size, i.bytes)) = some (some z, 1, bytes)) (b k cap : Nat) (f : Nat → Value) (hs : a.eval s = .slice (some ⟨b, 0, none⟩) k cap) (hrow : RowB w b e cap f) (hk : k < cap)
    (ad c : Nat) (v : Value) (hx : a.eval x = .slice (some ⟨ad, 0, none⟩) 1 c) (hv : w.cell? ⟨ad, 0, none⟩ = some v) (h1 : v.oneCell' = true)
    (hK : wpList P ops Q rest (a.put o.dst (.slice (some ⟨b, 0, none⟩) (k + 1) cap)) (w.setCell ⟨b, k, none⟩ v)) :
    wpList P ops Q (o :: rest) a w := by
  refine wpList_plain hg fun K hK' => ?_
  obtain ⟨i, hi, hz, hsz, hb⟩ := info_parts hinfo
  have hrun := run_append_room_cells (P := P) w t o.type e i ht hi b 0 k cap ⟨ad, 0, none⟩ 1 c [v] (by rw [hsz]; rfl)
    (fun j u hj => by
      match j, hj with
      | 0, hj => simp at hj; subst hj; simpa [Addr.add] using hv
      | j + 1, hj => simp at hj)
    (fun u hu => by rw [List.mem_singleton.1 hu]; exact h1) (by omega)
    (fun j hj => by
      have : j = 0 := by simpa using hj
      subst this
      rw [hsz]
      simp only [Nat.zero_add, Nat.mul_one, Nat.add_zero]
      rw [hrow.cell hk]; rfl)
    (fun j hj => by exact hrow.free _)
  rw [hsz] at hrun
  simp only [Nat.zero_add, Nat.mul_one, World.setCells] at hrun
  unfold Oper.wp
  simp [execOp, hop, resolve, invoke, builtin, hs, hx, hrun, Result.andThen]
  exact hK' _ _ hK

theorem bytes_ok (ga va ha ra : Option Addr) (n m l r cg cv ch cr : Nat) (gen : Int) (w : World) (hn : n ≤ 4096) (hm : m ≤ 4096) (hl : l ≤ 4096) (hr : r ≤ 8192) :
    Calls Try.prog 8 #[.slice ga n cg, .slice va m cv, .slice ha l ch, .slice ra r cr, .int .u32 gen] w fun e w' => e = .returned (.bool true) ∧ w = w' := by
  go_enter Try.func8, Try.ntmps8
  go_wp2
  go_ret
  exact ⟨rfl, rfl⟩

set_option maxRecDepth 100000 in
set_option maxHeartbeats 1000000 in
theorem law_false (ga va ha ra : Option Addr) (n m l r cg cv ch cr : Nat) (G R : Nat → Int) (gen : Int) (w : World) (rg : RowIn w .u32 ga n G) (rr : RowIn w .u32 ra r R)
    (hn : n ≤ 4096) (hm : m ≤ 4096) (hl : l ≤ 4096) (hr : r ≤ 8192) (hb : premB n m l r G R gen = false) :
    Calls Try.prog 3 #[.slice ga n cg, .slice va m cv, .slice ha l ch, .slice ra r cr, .int .u32 gen] w fun e w' => e = .returned (.bool true) ∧ Below w.heap.size w w' := by
  have HB := HxWalkA.hide hb
  clear hb
  go_enter Try.func3, Try.ntmps3
  go_wp2_with (first | (go_at_call 8; refine (bytes_ok _ _ _ _ _ _ _ _ _ _ _ _ _ _ hn hm hl hr).mono ?_; rintro e w' ⟨rfl, rfl⟩) | (go_at_call 9; refine (premise_at _ _ _ _ _ _ _ _ _ _ _ _ G R _ _ rg rr hn hm hl hr false HB.out).mono ?_; rintro e w' ⟨rfl, rfl⟩))
  go_ret
  exact ⟨rfl, Below.refl _ _⟩

end Go.Proofs.Qxb6001121a.HxBase
