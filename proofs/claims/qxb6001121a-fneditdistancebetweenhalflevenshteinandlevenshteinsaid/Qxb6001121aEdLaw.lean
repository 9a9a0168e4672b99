/-
  THE LAWS' WALKS over the edit distance.
-/
import Derived.Test.Qxb6001121aEdWalk
namespace Go.Proofs.Qxb6001121a.EdLaw
open Go.RowKit Go.Proofs.Qxb6001121a.Mem Go.Proofs.Qxb6001121a.EdBase Go.Proofs.Qxb6001121a.EdWalk

theorem zz_any (ao bo : Option Addr) (n m ca cb : Nat) (A B : Nat → Int) (w : World) (ha : RowIn w .i32 ao n A) (hb : RowIn w .i32 bo m B) (hn : n ≤ 1024) (hm : m ≤ 1024)
    (wa : ∀ i, i < n → (Lit.int .i32 (A i)).wf = true) (wb : ∀ i, i < m → (Lit.int .i32 (B i)).wf = true) :
    Calls Try.prog 23 #[.slice ao n ca, .slice bo m cb] w fun e w' => e = .returned (.int .i64 ((Ed.mat A B (n + m) (n + 1) (m + 1) : Nat) : Int)) ∧ Below w.heap.size w w' := by
  go_enter Try.func23, Try.ntmps23
  go_wp2_with (go_at_call 30; refine (edit_any _ _ _ _ _ _ A B _ ha hb hn hm wa wb).mono ?_; rintro e w' ⟨rfl, hbel⟩)
  go_ret
  exact ⟨rfl, hbel⟩

theorem zz_at (ao bo : Option Addr) (n m ca cb : Nat) (A B : Nat → Int) (w : World) (ha : RowIn w .i32 ao n A) (hb : RowIn w .i32 bo m B) (hn : n ≤ 1024) (hm : m ≤ 1024)
    (wa : ∀ i, i < n → (Lit.int .i32 (A i)).wf = true) (wb : ∀ i, i < m → (Lit.int .i32 (B i)).wf = true) (d : Nat) (hd : d = Ed.mat A B (n + m) (n + 1) (m + 1)) :
    Calls Try.prog 23 #[.slice ao n ca, .slice bo m cb] w fun e w' => e = .returned (.int .i64 (d : Int)) ∧ Below w.heap.size w w' := by
  subst hd
  exact zz_any ao bo n m ca cb A B w ha hb hn hm wa wb

theorem equal_at (ao bo : Option Addr) (n m ca cb : Nat) (A B : Nat → Int) (w : World) (ha : RowIn w .i32 ao n A) (hb : RowIn w .i32 bo m B) (hn : n ≤ 1048576) (hm : m ≤ 1048576) (r : Bool) (hr : eqB n m A B = r) :
    Calls Try.prog 24 #[.slice ao n ca, .slice bo m cb] w fun e w' => e = .returned (.bool r) ∧ ∃ q, w' = w.drewN q := by
  subst hr
  exact equal_any ao bo n m ca cb A B w ha hb hn hm

theorem below_dn {B : Nat} {a w : World} (h : Below B a w) (q : Nat) : Below B a (w.drewN q) := ⟨h.os, h.tape, h.output, h.size, h.block⟩

/-- the text with two neighbours swapped -/
def swapped (A : Nat → Int) (p t : Nat) : Int := if t = p then A (p + 1) else if t = p + 1 then A p else A t

theorem swap_one (A : Nat → Int) (n p : Nat) (hp : p + 1 < n) : Ed.mat A (swapped A p) (n + n) (n + 1) (n + 1) = if A p = A (p + 1) then 0 else 1 := by
  by_cases e : A p = A (p + 1)
  · rw [if_pos e]
    refine (Ed.mat_zero_iff A (swapped A p) (n + n) n n).2 ⟨rfl, fun t _ => ?_⟩
    unfold swapped
    split
    · rename_i h; rw [h]; exact e
    · split
      · rename_i h; rw [h]; exact e.symm
      · rfl
  · rw [if_neg e]
    have h1 := Ed.mat_swap A (swapped A p) (n + n) p (by simp [swapped]) (by simp [swapped]) (fun t h h' => by simp [swapped, h, h']) (n - (p + 2))
    rw [show p + 2 + (n - (p + 2)) + 1 = n + 1 from by omega] at h1
    have h2 : Ed.mat A (swapped A p) (n + n) (n + 1) (n + 1) ≠ 0 := fun h => by
      have := ((Ed.mat_zero_iff A (swapped A p) (n + n) n n).1 h).2 p (by omega)
      simp [swapped] at this
      exact e this
    omega

theorem swap_rows {w : World} {S n p : Nat} {A : Nat → Int} (h : RowB w S 21 n (fun i => .int .i32 (A i))) : RowB ((w.setCell ⟨S, p, none⟩ (.int .i32 (A (p + 1)))).setCell ⟨S, p + 1, none⟩ (.int .i32 (A p))) S 21 n (fun i => .int .i32 (swapped A p i)) :=
  ((h.set p _).set (p + 1) _).congr fun j _ => by
    unfold swapped
    by_cases e : j = p + 1
    · rw [if_pos e, if_neg (by omega), if_pos e]
    · rw [if_neg e]
      by_cases e' : j = p
      · rw [if_pos e', if_pos e']
      · rw [if_neg e', if_neg e', if_neg e]

theorem walk_big (a0 : Option Addr) (len0 cap0 : Nat) (a1 : Option Addr) (len1 cap1 : Nat) (a2 : Int) (w : World) (hl0 : len0 ≤ 9223372036854775807) (hl1 : len1 ≤ 9223372036854775807) (hbig : 1024 < len0 ∨ 1024 < len1) :
    Calls Try.prog 5 #[.slice a0 len0 cap0, .slice a1 len1 cap1, .int .i64 a2] w fun e w' => e = .returned (.bool true) ∧ Below w.heap.size w w' := by
  by_cases hn : 1024 < len0
  · clear hbig
    go_enter Try.func5, Try.ntmps5
    go_wp2
    all_goals
      go_ret
      exact ⟨rfl, Below.refl _ _⟩
  · have hm : 1024 < len1 := by omega
    clear hbig
    go_enter Try.func5, Try.ntmps5
    go_wp2
    all_goals
      go_ret
      exact ⟨rfl, Below.refl _ _⟩

set_option maxRecDepth 100000 in
set_option maxHeartbeats 2000000 in
theorem walk_small (a0 : Option Addr) (n cap0 : Nat) (A : Nat → Int) (a1 : Option Addr) (m cap1 : Nat) (B : Nat → Int) (a2 : Int) (w : World) (ha : RowIn w .i32 a0 n A) (hb : RowIn w .i32 a1 m B) (hn : n ≤ 1024) (hm : m ≤ 1024)
    (wa : ∀ i, i < n → (Lit.int .i32 (A i)).wf = true) (wb : ∀ i, i < m → (Lit.int .i32 (B i)).wf = true) :
    Calls Try.prog 5 #[.slice a0 n cap0, .slice a1 m cap1, .int .i64 a2] w fun e w' => e = .returned (.bool true) ∧ Below w.heap.size w w' := by
  obtain ⟨d1, hd1⟩ : ∃ d, d = Ed.mat A B (n + m) (n + 1) (m + 1) := ⟨_, rfl⟩
  obtain ⟨d2, hd2⟩ : ∃ d, d = Ed.mat B A (m + n) (m + 1) (n + 1) := ⟨_, rfl⟩
  obtain ⟨d3, hd3⟩ : ∃ d, d = Ed.mat A A (n + n) (n + 1) (n + 1) := ⟨_, rfl⟩
  have e2 : d1 = d2 := by rw [hd1, hd2, Ed.mat_symm A B (n + m), Nat.add_comm m n]
  have e3 : d3 = 0 := by rw [hd3]; exact (Ed.mat_zero_iff A A (n + n) n n).2 ⟨rfl, fun _ _ => rfl⟩
  have t2 : ((d1 : Int) != (d2 : Int)) = false := by simp [e2]
  have t3 : ((d3 : Int) != 0) = false := by simp [e3]
  obtain ⟨r, hr⟩ : ∃ r, eqB n m A B = r := ⟨_, rfl⟩
  have t1 : ((d1 : Int) == 0) = r := by
    have := Ed.mat_zero_iff A B (n + m) n m
    rw [← hd1] at this
    rw [← hr]
    unfold eqB
    by_cases h : d1 = 0
    · rw [decide_eq_true (this.1 h)]; simp [h]
    · rw [decide_eq_false (fun h' => h (this.2 h'))]; simp [h]
  have HR := hide hr
  clear hr
  have H1 := hide hd1
  have H2 := hide hd2
  have H3 := hide hd3
  clear hd1 hd2 hd3 e2 e3
  go_enter Try.func5, Try.ntmps5
  go_wp2_with (go_at_call 21; go_in)
  refine (clone_any _ _ _ A _ ha (by omega)).mono ?_
  rintro e w1 ⟨ao, c1, rfl, hra, hb1⟩
  have hb' := hb.below hb1 (Nat.le_refl _)
  go_wp2_with fail
  refine (clone_any _ _ _ B _ hb' (by omega)).mono ?_
  rintro e w2 ⟨bo, c2, rfl, hrb, hb2⟩
  have ra : RowIn w2 .i32 ao n A := fun h => by
    obtain ⟨rfl, h'⟩ := hra h
    exact RowIn.of_rowB (h'.below hb2 h'.lt) h
  have rb : RowIn w2 .i32 bo m B := fun h => by
    obtain ⟨rfl, h'⟩ := hrb h
    exact RowIn.of_rowB h' h
  have W2 : Below w.heap.size w w2 := hb1.trans (hb2.mono hb1.size)
  clear ha hb hb' hra hrb hb1 hb2
  have HW2 := hide W2
  clear W2
  go_wp2_with fail
  refine (zz_at _ _ _ _ _ _ A B _ ra rb hn hm wa wb d1 H1.out).mono ?_
  rintro e w3 ⟨rfl, hb3⟩
  have ra3 := ra.below hb3 (Nat.le_refl _)
  have rb3 := rb.below hb3 (Nat.le_refl _)
  have HW3 := hide (HW2.out.trans (hb3.mono HW2.out.size))
  clear ra rb hb3 HW2
  go_wp2_with fail
  refine (zz_at _ _ _ _ _ _ B A _ rb3 ra3 hm hn wb wa d2 H2.out).mono ?_
  rintro e w4 ⟨rfl, hb4⟩
  have ra4 := ra3.below hb4 (Nat.le_refl _)
  have rb4 := rb3.below hb4 (Nat.le_refl _)
  have HW4 := hide (HW3.out.trans (hb4.mono HW3.out.size))
  clear ra3 rb3 hb4 HW3
  go_wp2_with fail
  refine (equal_at _ _ _ _ _ _ A B _ ra4 rb4 (by omega) (by omega) r HR.out).mono ?_
  rintro e w5 ⟨rfl, q, hw5⟩
  have ra5 : RowIn w5 .i32 ao n A := by rw [hw5]; exact ra4
  have HW5 : Hid (Below w.heap.size w w5) := by rw [hw5]; exact ⟨HW4.out.os, HW4.out.tape, HW4.out.output, HW4.out.size, HW4.out.block⟩
  clear ra4 rb4 HW4 hw5
  go_wp2_with fail
  refine (zz_at _ _ _ _ _ _ A A _ ra5 ra5 hn hn wa wa d3 H3.out).mono ?_
  rintro e w6 ⟨rfl, hb6⟩
  have ra6 := ra5.below hb6 (Nat.le_refl _)
  have HW6 := hide (HW5.out.trans (hb6.mono HW5.out.size))
  clear ra5 hb6 HW5 t1 t2 H1 H2 H3 HR
  by_cases hin : 0 ≤ a2 ∧ a2 < (n : Int) - 1
  · obtain ⟨hp0, hp1⟩ := hin
    obtain ⟨p, rfl⟩ : ∃ p : Nat, a2 = (p : Int) := ⟨a2.toNat, by omega⟩
    go_wp2_with fail
    refine (clone_any _ _ _ A _ ra6 (by omega)).mono ?_
    rintro e w7 ⟨so, c3, rfl, hrs, hb7⟩
    obtain ⟨rfl, hrow⟩ := hrs (by omega)
    have RA : Hid (RowIn ((w7.setCell ⟨w6.heap.size, p, none⟩ (.int .i32 (A (p + 1)))).setCell ⟨w6.heap.size, p + 1, none⟩ (.int .i32 (A p))) .i32 ao n A) :=
      ra6.below ((hb7.setCell (p := ⟨w6.heap.size, p, none⟩) (Nat.le_refl _) _).setCell (p := ⟨w6.heap.size, p + 1, none⟩) (Nat.le_refl _) _) (Nat.le_refl _)
    have RS := hide (swap_rows (p := p) hrow)
    have HW8 : Hid (Below w.heap.size w (((w7.setCell ⟨w6.heap.size, p, none⟩ (.int .i32 (A (p + 1)))).setCell ⟨w6.heap.size, p + 1, none⟩ (.int .i32 (A p))))) :=
      HW6.out.trans (((hb7.setCell (p := ⟨w6.heap.size, p, none⟩) (Nat.le_refl _) _).setCell (p := ⟨w6.heap.size, p + 1, none⟩) (Nat.le_refl _) _).mono HW6.out.size)
    have WS : Hid (∀ i, i < n → (Lit.int .i32 (swapped A p i)).wf = true) := fun i hi => by
      unfold swapped
      split
      · exact wa _ (by omega)
      · split
        · exact wa _ (by omega)
        · exact wa _ hi
    have cs0 := hrow.cell (i := p) (by omega)
    have cs1 := hrow.cell (i := p + 1) (by omega)
    have fs0 := hrow.free p
    have fs1 := hrow.free (p + 1)
    obtain ⟨ba, oa, hao, hba, hca⟩ := ra6 (by omega)
    subst hao
    have ca0 : w7.cell? ⟨ba, oa + p, none⟩ = some (.int .i32 (A p)) := (hb7.cell (p := ⟨ba, oa + p, none⟩) hba).trans (hca p (by omega))
    have ca1 : w7.cell? ⟨ba, oa + (p + 1), none⟩ = some (.int .i32 (A (p + 1))) := (hb7.cell (p := ⟨ba, oa + (p + 1), none⟩) hba).trans (hca (p + 1) (by omega))
    clear hrow hrs ra6 hb7 hca HW6
    by_cases hab : A p = A (p + 1)
    · have hab' : (A p == A (p + 1)) = true := by simp [hab]
      have HD : Hid (0 = Ed.mat A (swapped A p) (n + n) (n + 1) (n + 1)) := by rw [swap_one A n p (by omega), if_pos hab]; rfl
      clear hab
      go_wp2
      go_quiet (fail)
      go_wp2_with fail
      refine (zz_at _ _ _ _ _ _ A (swapped A p) _ (RA.out.drewN _) ((RowIn.of_rowB RS.out).drewN _) hn hn wa WS.out 0 HD.out).mono ?_
      rintro e w9 ⟨rfl, hb9⟩
      have HW9 := hide ((below_dn HW8.out nq).trans (hb9.mono HW8.out.size))
      go_wp2
      go_ret
      exact ⟨rfl, HW9.out⟩
    · have hab' : (A p == A (p + 1)) = false := by simp [hab]
      have HD : Hid (1 = Ed.mat A (swapped A p) (n + n) (n + 1) (n + 1)) := by rw [swap_one A n p (by omega), if_neg hab]; rfl
      clear hab
      go_wp2
      go_quiet (fail)
      go_wp2_with fail
      refine (zz_at _ _ _ _ _ _ A (swapped A p) _ (RA.out.drewN _) ((RowIn.of_rowB RS.out).drewN _) hn hn wa WS.out 1 HD.out).mono ?_
      rintro e w9 ⟨rfl, hb9⟩
      have HW9 := hide ((below_dn HW8.out nq).trans (hb9.mono HW8.out.size))
      go_wp2
      go_ret
      exact ⟨rfl, HW9.out⟩
  · by_cases hp0 : 0 ≤ a2
    · have hp1 : (n : Int) - 1 ≤ a2 := by omega
      clear hin
      go_wp2
      go_ret
      exact ⟨rfl, HW6.out⟩
    · clear hin
      go_wp2
      go_ret
      exact ⟨rfl, HW6.out⟩

end Go.Proofs.Qxb6001121a.EdLaw
