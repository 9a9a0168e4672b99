/-
  THE WALK of sortPairs.
-/
import Derived.Test.Qxb6001121aHxMem
import Derived.Test.Qxb6001121aHxSortPlain
namespace Go.Proofs.Qxb6001121a.HxSort
open Go.RowKit Go.Proofs.Qxb6001121a.Mem Go.Proofs.Qxb6001121a.EdBase Go.Proofs.Qxb6001121a.HxMem Go.Proofs.Qxb6001121a.HxSortPlain

theorem hide {p : Prop} (h : p) : Hid p := h

theorem less_any (a b c d : Int) (w : World) : Calls Try.prog 29 #[.int .u64 a, .int .i64 b, .int .u64 c, .int .i64 d] w fun e w' => e = .returned (.bool (lessB (a, b) (c, d))) ∧ w' = w := by
  by_cases h : a = c
  · subst h
    have h' : (a != a) = false := by simp
    go_enter Try.func29, Try.ntmps29
    go_wp2
    go_ret
    exact ⟨ret_bool (decide_eq_decide.mpr (by simp)), rfl⟩
  · have h' : (a != c) = true := by simpa using h
    go_enter Try.func29, Try.ntmps29
    go_wp2
    go_ret
    exact ⟨ret_bool (decide_eq_decide.mpr (by simp; omega)), rfl⟩
theorem less_at (a b c d : Int) (r : Bool) (hr : lessB (a, b) (c, d) = r) (w : World) : Calls Try.prog 29 #[.int .u64 a, .int .i64 b, .int .u64 c, .int .i64 d] w fun e w' => e = .returned (.bool r) ∧ w' = w := by
  subst hr
  exact less_any a b c d w

/-- the two rows hold the pairs f -/
def Two (w : World) (bh bv c : Nat) (f : Nat → Int × Int) : Prop := RowB w bh 35 c (fun i => .int .u64 (f i).1) ∧ RowB w bv 3 c (fun i => .int .i64 (f i).2)

theorem two_swap {w wf : World} {bh bv c j : Nat} {f : Nat → Int × Int} (h : Two w bh bv c f) (hne : bh ≠ bv) (hj : 1 ≤ j)
    (hf : wf.heap = ((((w.setCell ⟨bh, j, none⟩ (.int .u64 (f (j - 1)).1)).setCell ⟨bh, j - 1, none⟩ (.int .u64 (f j).1)).setCell ⟨bv, j, none⟩ (.int .i64 (f (j - 1)).2)).setCell ⟨bv, j - 1, none⟩ (.int .i64 (f j).2)).heap) : Two wf bh bv c (swp f j) := by
  have h1 := ((((h.1.set j (.int .u64 (f (j - 1)).1)).set (j - 1) (.int .u64 (f j).1)).other (a := ⟨bv, j, none⟩) hne (.int .i64 (f (j - 1)).2)).other (a := ⟨bv, j - 1, none⟩) hne (.int .i64 (f j).2))
  have h2 := ((((h.2.other (a := ⟨bh, j, none⟩) (fun e => hne e.symm) (.int .u64 (f (j - 1)).1)).other (a := ⟨bh, j - 1, none⟩) (fun e => hne e.symm) (.int .u64 (f j).1)).set j (.int .i64 (f (j - 1)).2)).set (j - 1) (.int .i64 (f j).2))
  refine ⟨(h1.of_block (by rw [hf])).congr fun i _ => ?_, (h2.of_block (by rw [hf])).congr fun i _ => ?_⟩
  · unfold swp
    by_cases e1 : i = j - 1
    · rw [if_pos e1, if_neg (by omega), if_pos e1]
    · rw [if_neg e1, if_neg e1]
      by_cases e2 : i = j
      · rw [if_pos e2, if_pos e2]
      · rw [if_neg e2, if_neg e2]
  · unfold swp
    by_cases e1 : i = j - 1
    · rw [if_pos e1, if_neg (by omega), if_pos e1]
    · rw [if_neg e1, if_neg e1]
      by_cases e2 : i = j
      · rw [if_pos e2, if_pos e2]
      · rw [if_neg e2, if_neg e2]

set_option maxRecDepth 100000 in
set_option maxHeartbeats 2000000 in
theorem sort_any (bh bv L c : Nat) (f : Nat → Int × Int) (w : World) (h2 : Two w bh bv c f) (hne : bh ≠ bv) (hL : L ≤ c) (hc : c ≤ 4096) :
    Calls Try.prog 19 #[.slice (some ⟨bh, 0, none⟩) L c, .slice (some ⟨bv, 0, none⟩) L c] w fun e w' => e = .returned (.tuple #[]) ∧ (∃ f', Two w' bh bv c f' ∧ Sorted f' L ∧ (row f' L).Perm (row f L)) ∧ Mut w w' bh bv := by
  have H2 := hide h2
  clear h2
  go_enter Try.func19, Try.ntmps19
  go_wp2_with fail
  go_loopw [4] (fun i wr => ∃ (i0 : Nat) (g : Nat → Int × Int), 1 ≤ i0 ∧ (i0 ≤ L ∨ i0 = 1) ∧ i = .int .i64 i0 ∧ Two wr bh bv c g ∧ Sorted g i0 ∧ (row g L).Perm (row f L) ∧ Mut w wr bh bv) (fun i _ => L - (intOf i).toNat)
  case atStart => exact ⟨1, f, by omega, Or.inr rfl, rfl, H2.out, fun a b h1 h2 => by omega, List.Perm.refl _, Mut.refl _ _ _⟩
  case round =>
    clear H2
    obtain ⟨i, g, hi1, hi2, rfl, hT, hS, hP, hM⟩ := hrel
    by_cases hiL : i < L
    · have HT := hide hT
      have HS := hide hS
      have HP := hide hP
      have HM := hide hM
      clear hT hS hP hM hi2
      go_wp2_with fail
      go_loopw [5] (fun j wr => ∃ (j0 : Nat) (g : Nat → Int × Int), j0 ≤ i ∧ j = .int .i64 j0 ∧ Two wr bh bv c g ∧ Nearly g (i + 1) j0 ∧ (row g L).Perm (row f L) ∧ Mut w wr bh bv) (fun j _ => (intOf j).toNat)
      case atStart => exact ⟨i, g, Nat.le_refl _, rfl, HT.out, nearly_start HS.out, HP.out, HM.out⟩
      case round =>
        clear HT HS HP HM
        obtain ⟨j, g, hj, rfl, hT, hN, hP, hM⟩ := hrel
        have HN := hide hN
        have HP := hide hP
        have HM := hide hM
        have HT := hide hT
        by_cases hj0 : 0 < j
        · have c0 := hT.1.cell (i := j) (by omega)
          have c1 := hT.1.cell (i := j - 1) (by omega)
          have c2 := hT.2.cell (i := j) (by omega)
          have c3 := hT.2.cell (i := j - 1) (by omega)
          have f0 := hT.1.free j
          have f1 := hT.1.free (j - 1)
          have f2 := hT.2.free j
          have f3 := hT.2.free (j - 1)
          have hj0' : (0 : Int) < (j : Int) := by omega
          have hjL : (j : Int) < (L : Int) := by omega
          have hjL1 : (j : Int) - 1 < (L : Int) := by omega
          have hne1 : ¬ bv = bh := fun e => hne e.symm
          have hne2 : ¬ j - 1 = j := by omega
          clear hT hN hP hM
          obtain ⟨r, hr⟩ : ∃ r, lessB (g j) (g (j - 1)) = r := ⟨_, rfl⟩
          have hr' : lessB ((g j).1, (g j).2) ((g (j - 1)).1, (g (j - 1)).2) = r := hr
          obtain ⟨x0, e0⟩ : ∃ x, (g j).1 = x := ⟨_, rfl⟩
          obtain ⟨x1, e1⟩ : ∃ x, (g (j - 1)).1 = x := ⟨_, rfl⟩
          obtain ⟨x2, e2⟩ : ∃ x, (g j).2 = x := ⟨_, rfl⟩
          obtain ⟨x3, e3⟩ : ∃ x, (g (j - 1)).2 = x := ⟨_, rfl⟩
          rw [e0] at c0
          rw [e1] at c1
          rw [e2] at c2
          rw [e3] at c3
          rw [e0, e1, e2, e3] at hr'
          have HR := hide hr
          have HR' := hide hr'
          have E := hide (And.intro e0 (And.intro e1 (And.intro e2 e3)))
          clear hr hr' e0 e1 e2 e3
          cases r with
          | true =>
            go_wp2
            go_quiet ((go_at_call 29; exact Calls.quiet_of_same (less_at _ _ _ _ true HR'.out _)))
            go_wp2
            go_roundw
            case rel =>
              obtain ⟨e0, e1, e2, e3⟩ := E.out
              refine ⟨j - 1, swp g j, by omega, by go_num, ?_, nearly_step HN.out (by omega) (by omega) HR.out, (row_swp g (by omega) (by omega)).trans HP.out, ?_⟩
              · refine two_swap HT.out hne (by omega) ?_
                rw [e0, e1, e2, e3]
                rfl
              · exact ((((HM.out.setCell (x := ⟨bh, j, none⟩) (by simp) _).setCell (x := ⟨bh, j - 1, none⟩) (by simp) _).setCell (x := ⟨bv, j, none⟩) (by simp) _).setCell (x := ⟨bv, j - 1, none⟩) (by simp) _).alike rfl rfl rfl rfl
            case measure => simp [intOf]; omega
          | false =>
            go_wp2
            go_quiet ((go_at_call 29; exact Calls.quiet_of_same (less_at _ _ _ _ false HR'.out _)))
            go_wp2
            go_roundw
            case rel =>
              exact ⟨i + 1, g, by omega, Or.inl (by omega), by go_num, HT.out, nearly_end HN.out (Or.inr (le_of_not HR.out)), HP.out, HM.out.alike rfl rfl rfl rfl⟩
            case measure => simp [intOf]; omega
        · obtain rfl : j = 0 := by omega
          clear hT hN hP hM
          have hd : decide ((0 : Int) < ((0 : Nat) : Int)) = false := by decide
          go_wp2
          go_quiet (fail)
          go_wp2
          go_roundw
          case rel =>
            exact ⟨i + 1, g, by omega, Or.inl (by omega), by go_num, HT.out, nearly_end HN.out (Or.inl rfl), HP.out, HM.out.alike rfl rfl rfl rfl⟩
          case measure => simp [intOf]; omega
    · have HT := hide hT
      have HS := hide hS
      have HP := hide hP
      have HM := hide hM
      clear hT hS hP hM
      go_wp2
      go_end0
      exact ⟨rfl, ⟨g, HT.out, fun a b h1 h2 => HS.out a b h1 (by omega), HP.out⟩, HM.out⟩

end Go.Proofs.Qxb6001121a.HxSort
