/-
  THE WALK of the model levenshtein: it computes the plain table 'lev'.
-/
import Derived.Test.Qxb6001121aEdLaw
namespace Go.Proofs.Qxb6001121a.EdLev
open Go.RowKit Go.Proofs.Qxb6001121a.Mem Go.Proofs.Qxb6001121a.EdBase Go.Proofs.Qxb6001121a.EdWalk Go.Proofs.Qxb6001121a.EdLaw

/-- row C holds line i of the table up to place j -/
def Line (wr : World) (C m : Nat) (A B : Nat → Int) (i j : Nat) : Prop := ∃ g : Nat → Int, RowB wr C 3 (m + 1) (fun c => .int .i64 (g c)) ∧ ∀ c, c < j → g c = ((Ed.lev A B i c : Nat) : Int)

theorem Line.set {wr : World} {C m i j : Nat} {A B : Nat → Int} (h : Line wr C m A B i j) (x : Int) (hx : x = ((Ed.lev A B i j : Nat) : Int)) : Line (wr.setCell ⟨C, j, none⟩ (.int .i64 x)) C m A B i (j + 1) := by
  obtain ⟨g, h1, h2⟩ := h
  refine ⟨fun c => if c = j then x else g c, (h1.set j (.int .i64 x)).congr fun c _ => by by_cases e : c = j <;> simp [e], fun c hc => ?_⟩
  dsimp only
  split
  · rename_i e; rw [e]; exact hx
  · exact h2 c (by omega)
theorem Line.other {wr : World} {C m i j : Nat} {A B : Nat → Int} (h : Line wr C m A B i j) {a : Addr} (ha : C ≠ a.block) (v : Value) : Line (wr.setCell a v) C m A B i j := by
  obtain ⟨g, h1, h2⟩ := h
  exact ⟨g, h1.other ha v, h2⟩
theorem Line.cell {wr : World} {C m i j c : Nat} {A B : Nat → Int} (h : Line wr C m A B i j) (hc : c < j) (hm : c < m + 1) : wr.cell? ⟨C, c, none⟩ = some (.int .i64 ((Ed.lev A B i c : Nat) : Int)) := by
  obtain ⟨g, h1, h2⟩ := h
  rw [h1.cell hm, h2 c hc]
theorem Line.some {wr : World} {C m i j c : Nat} {A B : Nat → Int} (h : Line wr C m A B i j) (hm : c < m + 1) : ∃ v, wr.cell? ⟨C, c, none⟩ = Option.some (.int .i64 v) := by
  obtain ⟨g, h1, h2⟩ := h
  exact ⟨_, h1.cell hm⟩
theorem Line.free {wr : World} {C m i j : Nat} {A B : Nat → Int} (h : Line wr C m A B i j) (c : Nat) : wr.frozen? ⟨C, c, none⟩ = false := by
  obtain ⟨g, h1, h2⟩ := h
  exact h1.free c
theorem Line.alike {wa wb : World} {C m i j : Nat} {A B : Nat → Int} (h : Line wa C m A B i j) (hh : wb.heap = wa.heap) : Line wb C m A B i j := by
  obtain ⟨g, h1, h2⟩ := h
  exact ⟨g, h1.of_block (by rw [hh]), h2⟩
theorem Line.anew {wr : World} {C m i j : Nat} {A B : Nat → Int} (h : Line wr C m A B i j) (i' : Nat) : Line wr C m A B i' 0 := by
  obtain ⟨g, h1, h2⟩ := h
  exact ⟨g, h1, fun c hc => by omega⟩

theorem below_alike {D : Nat} {w wa wb : World} (h : Below D w wa) (hh : wb.heap = wa.heap) (h1 : wb.os = wa.os) (h2 : wb.tape = wa.tape) (h3 : wb.output = wa.output) : Below D w wb :=
  ⟨h1.trans h.os, h2.trans h.tape, h3.trans h.output, by rw [hh]; exact h.size, fun k hk => by rw [hh]; exact h.block k hk⟩

/-- the table's next number -/
theorem lev_at (A B : Nat → Int) {i j : Nat} (hi : 1 ≤ i) (hj : 1 ≤ j) : Ed.lev A B i j = min (min (Ed.lev A B (i - 1) (j - 1) + if A (i - 1) = B (j - 1) then 0 else 1) (Ed.lev A B (i - 1) j + 1)) (Ed.lev A B i (j - 1) + 1) := by
  obtain ⟨i, rfl⟩ : ∃ i', i = i' + 1 := ⟨i - 1, by omega⟩
  obtain ⟨j, rfl⟩ : ∃ j', j = j' + 1 := ⟨j - 1, by omega⟩
  exact Ed.lev_step A B i j

/-- the two rows, between two lines -/
def Two (w wr : World) (P C m : Nat) (A B : Nat → Int) (i : Nat) : Prop :=
  P ≠ C ∧ w.heap.size ≤ P ∧ w.heap.size ≤ C ∧ Line wr P m A B (i - 1) (m + 1) ∧ Line wr C m A B i 0 ∧ Below w.heap.size w wr
/-- the two rows, within a line -/
def Within (w wr : World) (P C m : Nat) (A B : Nat → Int) (i j : Nat) : Prop :=
  P ≠ C ∧ w.heap.size ≤ P ∧ w.heap.size ≤ C ∧ Line wr P m A B (i - 1) (m + 1) ∧ Line wr C m A B i j ∧ Below w.heap.size w wr

theorem within_step {w wr wf : World} {P C m i j : Nat} {A B : Nat → Int} (h : Within w wr P C m A B i j) (x : Int) (hx : x = ((Ed.lev A B i j : Nat) : Int)) (hh : wf.heap = (wr.setCell ⟨C, j, none⟩ (.int .i64 x)).heap)
    (h1 : wf.os = wr.os) (h2 : wf.tape = wr.tape) (h3 : wf.output = wr.output) : Within w wf P C m A B i (j + 1) := by
  obtain ⟨hne, hP, hC, l1, l2, hb⟩ := h
  exact ⟨hne, hP, hC, (l1.other (a := ⟨C, j, none⟩) hne _).alike hh, (l2.set x hx).alike hh, below_alike (hb.setCell (p := ⟨C, j, none⟩) hC _) hh h1 h2 h3⟩

theorem within_facts {w wr : World} {P C m i j : Nat} {A B : Nat → Int} (h : Within w wr P C m A B i j) (hi : 1 ≤ i) (hj : 1 ≤ j) (hjm : j ≤ m) :
    ∃ (x0 x1 x2 : Nat) (x3 : Int), (x0 = Ed.lev A B (i - 1) (j - 1) ∧ x1 = Ed.lev A B (i - 1) j ∧ x2 = Ed.lev A B i (j - 1)) ∧ (x0 ≤ i + j ∧ x1 ≤ i + j ∧ x2 ≤ i + j) ∧
      wr.cell? ⟨P, j - 1, none⟩ = some (.int .i64 (x0 : Int)) ∧ wr.cell? ⟨P, j, none⟩ = some (.int .i64 (x1 : Int)) ∧ wr.cell? ⟨C, j - 1, none⟩ = some (.int .i64 (x2 : Int)) ∧ wr.cell? ⟨C, j, none⟩ = some (.int .i64 x3) ∧ wr.frozen? ⟨C, j, none⟩ = false := by
  obtain ⟨hne, hP, hC, l1, l2, hb⟩ := h
  obtain ⟨v, hv⟩ := l2.some (c := j) (by omega)
  have q0 := Ed.lev_le A B (i - 1) (j - 1)
  have q1 := Ed.lev_le A B (i - 1) j
  have q2 := Ed.lev_le A B i (j - 1)
  exact ⟨_, _, _, v, ⟨rfl, rfl, rfl⟩, ⟨by omega, by omega, by omega⟩, l1.cell (by omega) (by omega), l1.cell (by omega) (by omega), l2.cell (by omega) (by omega), hv, l2.free j⟩

/-- what the first loop leaves -/
def first (k : Nat) (c : Nat) : Value := if c < k then .int .i64 (c : Int) else .int .i64 0
theorem first_step {w : World} {D m k : Nat} (h : RowB w D 3 (m + 1) (first k)) : RowB (w.setCell ⟨D, k, none⟩ (.int .i64 (k : Int))) D 3 (m + 1) (first (k + 1)) :=
  (h.set k _).congr fun j _ => by
    simp only [first]
    by_cases e : j = k
    · subst e; simp
    · rw [if_neg e]
      by_cases e' : j < k
      · rw [if_pos e', if_pos (by omega)]
      · rw [if_neg e', if_neg (by omega)]

theorem two_start {w wr : World} {m : Nat} {A B : Nat → Int} (h1 : RowB wr w.heap.size 3 (m + 1) (first (m + 1))) (h2 : RowB wr (w.heap.size + 1) 3 (m + 1) (fun _ => .int .i64 0)) (hb : Below w.heap.size w wr) : Two w wr w.heap.size (w.heap.size + 1) m A B 1 :=
  ⟨by omega, by omega, by omega, ⟨fun c => (c : Int), h1.congr fun c hc => by simp [first, hc], fun c _ => rfl⟩, ⟨fun _ => 0, h2, fun c hc => by omega⟩, hb⟩

set_option maxRecDepth 100000 in
set_option maxHeartbeats 2000000 in
theorem lev_any (ao bo : Option Addr) (n m ca cb : Nat) (A B : Nat → Int) (w : World) (ha : RowIn w .i32 ao n A) (hb : RowIn w .i32 bo m B) (hn : n ≤ 1024) (hm : m ≤ 1024) (d : Nat) (hd : d = Ed.lev A B n m) :
    Calls Try.prog 26 #[.slice ao n ca, .slice bo m cb] w fun e w' => e = .returned (.int .i64 (d : Int)) ∧ Below w.heap.size w w' := by
  have HD := hide hd
  clear hd
  go_enter Try.func26, Try.ntmps26
  have tok1 : True := trivial
  go_wp2_with (first | (at_make; have _t := tok1; refine wp_mkRow _ rfl _ _ 23 rfl 3 (.int .i64 0) 8 Try.underlying23 info3 rfl _ _ (m + 1) rfl rfl (by omega) (by omega) (by omega) (by omega) ?_; intro w1 hr1 hb1 hs1; clear tok1 _t) | (at_make; refine wp_mkRow _ rfl _ _ 23 rfl 3 (.int .i64 0) 8 Try.underlying23 info3 rfl _ _ (m + 1) rfl rfl (by omega) (by omega) (by omega) (by omega) ?_; rw [hs1]; intro w2 hr2 hb2 hs2))
  have R1 := hide (hr1.below hb2 (by omega))
  have R2 := hide hr2
  have BB := hide (hb1.trans (hb2.mono (by omega)))
  clear hr1 hb1 hs1 hr2 hb2 hs2
  go_loopw [7] (fun j wr => ∃ k : Nat, k ≤ m + 1 ∧ j = .int .i64 k ∧ RowB wr w.heap.size 3 (m + 1) (first k) ∧ RowB wr (w.heap.size + 1) 3 (m + 1) (fun _ => .int .i64 0) ∧ Below w.heap.size w wr) (fun j _ => m + 1 - (intOf j).toNat)
  case atStart => exact ⟨0, by omega, rfl, R1.out.congr (fun j _ => by simp [first]), R2.out, BB.out⟩
  case round =>
    clear R1 R2 BB
    obtain ⟨k, hk, rfl, r1, r2, bb⟩ := hrel
    by_cases hlt : k ≤ m
    · have c0 := r1.cell (i := k) (by omega)
      have f0 := r1.free k
      have R := hide (And.intro (first_step r1) (And.intro (r2.other (a := ⟨w.heap.size, k, none⟩) (by simp) (.int .i64 (k : Int))) (bb.setCell (p := ⟨w.heap.size, k, none⟩) (Nat.le_refl _) (.int .i64 (k : Int)))))
      clear r1 r2 bb
      go_wp2
      go_roundw
      case rel => exact ⟨k + 1, by omega, by go_num, R.out.1, R.out.2.1, R.out.2.2⟩
      case measure => simp [intOf]; omega
    · obtain rfl : k = m + 1 := by omega
      have T : Hid (Two w wr w.heap.size (w.heap.size + 1) m A B 1) := two_start r1 r2 bb
      clear r1 r2 bb
      go_wp2_with fail
      go_loopw [5, 6, 8] (fun p c i wr => ∃ i0 P C : Nat, 1 ≤ i0 ∧ i0 ≤ n + 1 ∧ i = .int .i64 i0 ∧ p = .slice (some ⟨P, 0, none⟩) (m + 1) (m + 1) ∧ c = .slice (some ⟨C, 0, none⟩) (m + 1) (m + 1) ∧ Two w wr P C m A B i0) (fun _ _ i _ => n + 1 - (intOf i).toNat)
      case atStart => exact ⟨1, w.heap.size, w.heap.size + 1, by omega, by omega, rfl, rfl, rfl, T.out⟩
      case round =>
        clear T
        obtain ⟨i, P, C, hi1, hi2, rfl, rfl, rfl, T⟩ := hrel
        by_cases hin : i ≤ n
        · have hin' : (i : Int) ≤ (n : Int) := by omega
          have cell0 := (T.2.2.2.2.1.some (c := 0) (by omega))
          obtain ⟨v0, c0⟩ := cell0
          have f0 := T.2.2.2.2.1.free 0
          have W : Hid (Within w (wr.setCell ⟨C, 0, none⟩ (.int .i64 (i : Int))) P C m A B i 1) := within_step (j := 0) T (i : Int) (by rw [Ed.lev_zero_right]) rfl rfl rfl rfl
          clear T
          go_wp2_with fail
          go_loopw [9] (fun j wr => ∃ j0 : Nat, 1 ≤ j0 ∧ j0 ≤ m + 1 ∧ j = .int .i64 j0 ∧ Within w wr P C m A B i j0) (fun j _ => m + 1 - (intOf j).toNat)
          case atStart => exact ⟨1, by omega, by omega, rfl, W.out⟩
          case round =>
            clear W c0 f0
            obtain ⟨j, hj1, hj2, rfl, W⟩ := hrel
            by_cases hjm : j ≤ m
            · obtain ⟨b1, o1, e1, hb1, hc1⟩ := ha (by omega)
              obtain ⟨b2, o2, e2, hb2, hc2⟩ := hb (by omega)
              cases e1
              cases e2
              have hra : wr.cell? ⟨b1, o1 + (i - 1), none⟩ = some (.int .i32 (A (i - 1))) := (W.2.2.2.2.2.cell (p := ⟨b1, o1 + (i - 1), none⟩) hb1).trans (hc1 (i - 1) (by omega))
              have hrb : wr.cell? ⟨b2, o2 + (j - 1), none⟩ = some (.int .i32 (B (j - 1))) := (W.2.2.2.2.2.cell (p := ⟨b2, o2 + (j - 1), none⟩) hb2).trans (hc2 (j - 1) (by omega))
              have hi3 : (1 : Int) ≤ (i : Int) := by omega
              have hj3 : (1 : Int) ≤ (j : Int) := by omega
              have hjm' : (j : Int) ≤ (m : Int) := by omega
              obtain ⟨x0, x1, x2, x3, hxs, ⟨y0, y1, y2⟩, g0, g1, g2, g3, g4⟩ := within_facts W hi1 hj1 hjm
              have L : Hid (Ed.lev A B i j = min (min (x0 + if A (i - 1) = B (j - 1) then 0 else 1) (x1 + 1)) (x2 + 1)) := by rw [hxs.1, hxs.2.1, hxs.2.2]; exact lev_at A B hi1 hj1
              have WW := hide W
              clear W hxs hc1 hc2
              by_cases hab : A (i - 1) = B (j - 1)
              · have hab' : (A (i - 1) != B (j - 1)) = false := by simp [hab]
                rw [if_pos hab] at L
                clear hab
                go_wp2
                go_quiet (fail)
                go_wp2
                all_goals
                  go_roundw
                  case rel =>
                    have l := L.out
                    exact ⟨j + 1, by omega, by omega, by go_num, within_step WW.out _ (by rw [l]; omega) rfl rfl rfl rfl⟩
                  case measure => simp [intOf]; omega
              · have hab' : (A (i - 1) != B (j - 1)) = true := by simp [hab]
                rw [if_neg hab] at L
                clear hab
                go_wp2
                go_quiet (fail)
                go_wp2
                all_goals
                  go_roundw
                  case rel =>
                    have l := L.out
                    exact ⟨j + 1, by omega, by omega, by go_num, within_step WW.out _ (by rw [l]; omega) rfl rfl rfl rfl⟩
                  case measure => simp [intOf]; omega
            · obtain rfl : j = m + 1 := by omega
              have WW := hide W
              clear W
              go_wp2
              go_roundw
              case rel =>
                obtain ⟨hne, hP, hC, l1, l2, hb⟩ := WW.out
                exact ⟨i + 1, C, P, by omega, by omega, by go_num, rfl, rfl, fun e => hne e.symm, hC, hP, l2, l1.anew (i + 1), hb⟩
              case measure => simp [intOf]; omega
        · have c0 := T.2.2.2.1.cell (c := m) (by omega) (by omega)
          have e0 : i - 1 = n := by omega
          rw [e0, ← HD.out] at c0
          have BB := hide T.2.2.2.2.2
          clear T e0
          go_wp2
          go_ret
          exact ⟨rfl, BB.out⟩

theorem walk2_big (a0 : Option Addr) (len0 cap0 : Nat) (a1 : Option Addr) (len1 cap1 : Nat) (w : World) (hl0 : len0 ≤ 9223372036854775807) (hl1 : len1 ≤ 9223372036854775807) (hbig : 1024 < len0 ∨ 1024 < len1) :
    Calls Try.prog 6 #[.slice a0 len0 cap0, .slice a1 len1 cap1] w fun e w' => e = .returned (.bool true) ∧ Below w.heap.size w w' := by
  by_cases hn : 1024 < len0
  · clear hbig
    go_enter Try.func6, Try.ntmps6
    go_wp2
    all_goals
      go_ret
      exact ⟨rfl, Below.refl _ _⟩
  · have hm : 1024 < len1 := by omega
    clear hbig
    go_enter Try.func6, Try.ntmps6
    go_wp2
    all_goals
      go_ret
      exact ⟨rfl, Below.refl _ _⟩

set_option maxRecDepth 100000 in
set_option maxHeartbeats 2000000 in
theorem walk2_small (a0 : Option Addr) (n cap0 : Nat) (A : Nat → Int) (a1 : Option Addr) (m cap1 : Nat) (B : Nat → Int) (w : World) (ha : RowIn w .i32 a0 n A) (hb : RowIn w .i32 a1 m B) (hn : n ≤ 1024) (hm : m ≤ 1024)
    (wa : ∀ i, i < n → (Lit.int .i32 (A i)).wf = true) (wb : ∀ i, i < m → (Lit.int .i32 (B i)).wf = true) :
    Calls Try.prog 6 #[.slice a0 n cap0, .slice a1 m cap1] w fun e w' => e = .returned (.bool true) ∧ Below w.heap.size w w' := by
  obtain ⟨d1, hd1⟩ : ∃ d, d = Ed.mat A B (n + m) (n + 1) (m + 1) := ⟨_, rfl⟩
  obtain ⟨d2, hd2⟩ : ∃ d, d = Ed.lev A B n m := ⟨_, rfl⟩
  have t1 : d1 ≤ d2 := by rw [hd1, hd2]; exact Ed.mat_le_lev A B (n + m) n m
  have t2 : d2 ≤ 2 * d1 := by rw [hd1, hd2]; exact Ed.lev_le_two A B (n + m) n m (Nat.le_refl _) n m (Nat.le_refl _) (Nat.le_refl _)
  have t3 : n ≤ d1 + m ∧ m ≤ d1 + n := by rw [hd1]; exact Ed.mat_ge A B (n + m) n m (Nat.le_refl _) n m (Nat.le_refl _) (Nat.le_refl _)
  have t4 : d1 ≤ n + m := by rw [hd1]; exact Ed.mat_le A B (n + m) n m
  obtain ⟨t3, t5⟩ := t3
  have H1 := hide hd1
  have H2 := hide hd2
  clear hd1 hd2
  go_enter Try.func6, Try.ntmps6
  go_wp2_with (go_at_call 25; go_in)
  refine (clone_any _ _ _ A _ ha (by omega)).mono ?_
  rintro e w1 ⟨ao, c1, rfl, hra, hb1⟩
  have hb' := hb.below hb1 (Nat.le_refl _)
  go_wp2_with fail
  refine (clone_any _ _ _ B _ hb' (by omega)).mono ?_
  rintro e w2 ⟨bo, c2, rfl, hrb, hb2⟩
  have ra : RowIn w2 .i32 ao n A := fun h => by
    obtain ⟨rfl, h'⟩ := hra h
    exact RowIn.of_rowB (h'.below hb2 h'.lt) h
  have rb : RowIn w2 .i32 bo m B := fun h => by
    obtain ⟨rfl, h'⟩ := hrb h
    exact RowIn.of_rowB h' h
  have HW2 := hide (hb1.trans (hb2.mono hb1.size))
  clear ha hb hb' hra hrb hb1 hb2
  go_wp2_with fail
  refine (zz_at _ _ _ _ _ _ A B _ ra rb hn hm wa wb d1 H1.out).mono ?_
  rintro e w3 ⟨rfl, hb3⟩
  have ra3 := ra.below hb3 (Nat.le_refl _)
  have rb3 := rb.below hb3 (Nat.le_refl _)
  have HW3 := hide (HW2.out.trans (hb3.mono HW2.out.size))
  clear ra rb hb3 HW2
  go_wp2_with fail
  refine (lev_any _ _ _ _ _ _ A B _ ra3 rb3 hn hm d2 H2.out).mono ?_
  rintro e w4 ⟨rfl, hb4⟩
  have HW4 := hide (HW3.out.trans (hb4.mono HW3.out.size))
  clear ra3 rb3 hb4 HW3 H1 H2 wa wb
  by_cases hlt : n < m
  · go_wp2
    go_ret
    exact ⟨ret_bool (decide_eq_true (by omega)), HW4.out⟩
  · go_wp2
    go_ret
    exact ⟨ret_bool (decide_eq_true (by omega)), HW4.out⟩

end Go.Proofs.Qxb6001121a.EdLev
