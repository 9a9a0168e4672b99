/-
  THE WALK of editDistance.
-/
import Derived.Test.Qxb6001121aEdMem
namespace Go.Proofs.Qxb6001121a.EdWalk
open Go.RowKit Go.Maps Go.Proofs.Qxb6001121a.Mem Go.Proofs.Qxb6001121a.EdBase Go.Proofs.Qxb6001121a.EdMem

/-- the heads after k rows -/
def heads (D M k r : Nat) : Value := if r < k then .slice (some ⟨D + 1 + r, 0, none⟩) M M else .slice none 0 0
/-- a row as the first loop leaves it -/
def row1 (n m r c : Nat) : Int := if c = 0 then ((n + m : Nat) : Int) else if c = 1 ∧ 0 < r then (r : Int) - 1 else 0

/-- what the first loop has made after k rounds -/
structure Made (w wr : World) (n m k : Nat) : Prop where
  size : wr.heap.size = w.heap.size + 1 + k
  below : Below w.heap.size w wr
  heads : RowB wr w.heap.size 23 (n + 2) (heads w.heap.size (m + 2) k)
  rows : ∀ r, r < k → RowB wr (w.heap.size + 1 + r) 3 (m + 2) (fun c => .int .i64 (row1 n m r c))

theorem made_step {w wr w2 : World} {n m k : Nat} (h : Made w wr n m k) (hk : k < n + 2) (hr : RowB w2 (w.heap.size + 1 + k) 3 (m + 2) (fun _ => .int .i64 0)) (hb : Below (w.heap.size + 1 + k) wr w2) (hs : w2.heap.size = w.heap.size + 1 + k + 1)
    (wf : World) (hf : wf = if 0 < k then ((w2.setCell ⟨w.heap.size, k, none⟩ (.slice (some ⟨w.heap.size + 1 + k, 0, none⟩) (m + 2) (m + 2))).setCell ⟨w.heap.size + 1 + k, 0, none⟩ (.int .i64 ((n : Int) + (m : Int)))).setCell ⟨w.heap.size + 1 + k, 1, none⟩ (.int .i64 ((k : Int) - 1))
      else (w2.setCell ⟨w.heap.size, k, none⟩ (.slice (some ⟨w.heap.size + 1 + k, 0, none⟩) (m + 2) (m + 2))).setCell ⟨w.heap.size + 1 + k, 0, none⟩ (.int .i64 ((n : Int) + (m : Int)))) :
    Made w wf n m (k + 1) := by
  have h1 : RowB w2 w.heap.size 23 (n + 2) (heads w.heap.size (m + 2) k) := h.heads.below hb (by omega)
  have h2 : RowB (w2.setCell ⟨w.heap.size, k, none⟩ (.slice (some ⟨w.heap.size + 1 + k, 0, none⟩) (m + 2) (m + 2))) w.heap.size 23 (n + 2) (heads w.heap.size (m + 2) (k + 1)) :=
    (h1.set k _).congr fun j _ => by
      simp only [heads]
      by_cases e : j = k
      · subst e; simp
      · rw [if_neg e]
        by_cases e' : j < k
        · rw [if_pos e', if_pos (by omega)]
        · rw [if_neg e', if_neg (by omega)]
  have hb2 : Below w.heap.size w (w2.setCell ⟨w.heap.size, k, none⟩ (.slice (some ⟨w.heap.size + 1 + k, 0, none⟩) (m + 2) (m + 2))) := (h.below.trans (hb.mono (by omega))).setCell (Nat.le_refl _) _
  have hold : ∀ r, r < k → RowB (w2.setCell ⟨w.heap.size, k, none⟩ (.slice (some ⟨w.heap.size + 1 + k, 0, none⟩) (m + 2) (m + 2))) (w.heap.size + 1 + r) 3 (m + 2) (fun c => .int .i64 (row1 n m r c)) :=
    fun r hrk => ((h.rows r hrk).below hb (by omega)).other (by simp; omega) _
  have hnew := hr.other (a := ⟨w.heap.size, k, none⟩) (by simp; omega) (.slice (some ⟨w.heap.size + 1 + k, 0, none⟩) (m + 2) (m + 2))
  have hnew2 := hnew.set 0 (.int .i64 ((n : Int) + (m : Int)))
  subst hf
  split
  · rename_i hpos
    have hnew3 := hnew2.set 1 (.int .i64 ((k : Int) - 1))
    refine ⟨by simp [World.setCell, hs]; omega, (hb2.setCell (by simp; omega) _).setCell (by simp; omega) _, (h2.other (by simp; omega) _).other (by simp; omega) _, fun r hrk => ?_⟩
    by_cases e : r = k
    · subst e
      refine hnew3.congr fun j _ => ?_
      simp only [row1]
      by_cases e0 : j = 0
      · subst e0; simp
      · by_cases e1 : j = 1
        · subst e1; simp [hpos]
        · simp [e0, e1]
    · exact ((hold r (by omega)).other (by simp; omega) _).other (by simp; omega) _
  · rename_i hpos
    refine ⟨by simp [World.setCell, hs]; omega, hb2.setCell (by simp; omega) _, h2.other (by simp; omega) _, fun r hrk => ?_⟩
    by_cases e : r = k
    · subst e
      refine hnew2.congr fun j _ => ?_
      simp only [row1]
      by_cases e0 : j = 0
      · subst e0; simp
      · simp [e0, hpos]
    · exact (hold r (by omega)).other (by simp; omega) _

/-- the least of four -/
def min4 (x y z u : Int) : Int := min (min x y) (min z u)
theorem run_min4 {P : Program} (w : World) (ts : Array TypeId) (t : TypeId) (x y z u : Int) : (Builtin.min_ ts t #[.int .i64 x, .int .i64 y, .int .i64 z, .int .i64 u]).run P w = .ok (.int .i64 (min4 x y z u)) w := by
  have e : (if u < (if z < (if y < x then y else x) then z else (if y < x then y else x)) then u else (if z < (if y < x then y else x) then z else (if y < x then y else x))) = min4 x y z u := by
    unfold min4; repeat' split
    all_goals omega
  rw [← e]
  simp [Builtin.min_, Builtin.min2]

/-- what the round stores is the table's next number -/
theorem next_cell {A B : Nat → Int} {n m i j kk ll x0 x1 x2 x3 : Nat} (hi : 1 ≤ i) (hj : 1 ≤ j) (hk : kk = Ed.last A (i - 1) (B (j - 1))) (hl : ll = Ed.last B (j - 1) (A (i - 1)))
    (h0 : x0 = Ed.mat A B (n + m) i j) (h1 : x1 = Ed.mat A B (n + m) (i + 1) j) (h2 : x2 = Ed.mat A B (n + m) i (j + 1)) (h3 : x3 = Ed.mat A B (n + m) kk ll) (r : Int) (hr : r = if A (i - 1) = B (j - 1) then 0 else 1) :
    min4 ((x0 : Int) + r) ((x1 : Int) + 1) ((x2 : Int) + 1) ((x3 : Int) + ((i : Int) - (kk : Int) - 1) + 1 + ((j : Int) - (ll : Int) - 1)) = ((Ed.mat A B (n + m) (i + 1) (j + 1) : Nat) : Int) := by
  obtain ⟨i, rfl⟩ : ∃ i', i = i' + 1 := ⟨i - 1, by omega⟩
  obtain ⟨j, rfl⟩ : ∃ j', j = j' + 1 := ⟨j - 1, by omega⟩
  simp only [Nat.add_sub_cancel] at hk hl hr
  have e := Ed.mat_step A B (n + m) i j
  rw [← hk, ← hl] at e
  have k1 := Ed.last_le A i (B j)
  have l1 := Ed.last_le B j (A i)
  rw [← hk] at k1
  rw [← hl] at l1
  rw [show i + 1 + 1 = i + 2 from rfl] at h1 ⊢
  rw [show j + 1 + 1 = j + 2 from rfl] at h2 ⊢
  rw [e, ← h0, ← h1, ← h2, ← h3]
  unfold min4
  by_cases hab : A i = B j
  · rw [if_pos hab] at hr ⊢; omega
  · rw [if_neg hab] at hr ⊢; omega

theorem last_next {A B : Nat → Int} {i j : Nat} (hj : 1 ≤ j) : Ed.last B (j + 1 - 1) (A (i - 1)) = if A (i - 1) = B (j - 1) then j else Ed.last B (j - 1) (A (i - 1)) := by
  obtain ⟨j, rfl⟩ : ∃ j', j = j' + 1 := ⟨j - 1, by omega⟩
  rw [show j + 1 + 1 - 1 = j + 1 from rfl, Ed.last_succ, show j + 1 - 1 = j from rfl]
  by_cases e : A (i - 1) = B j
  · rw [if_pos e.symm, if_pos e]
  · rw [if_neg (fun h => e h.symm), if_neg e]

theorem hide {p : Prop} (h : p) : Hid p := h

theorem made_grid {w wr : World} {n m : Nat} (h : Made w wr n m (n + 2)) : Grid wr w.heap.size (n + 2) (m + 2) (row1 n m) :=
  ⟨h.heads.congr fun r hr => by simp only [heads]; rw [if_pos hr], h.rows⟩

/-- the second loop's state: the first two rows filled up to column k -/
def Edge (w wr : World) (n m k : Nat) : Prop :=
  wr.heap.size = w.heap.size + 1 + (n + 2) ∧ Below w.heap.size w wr ∧ ∃ V, Grid wr w.heap.size (n + 2) (m + 2) V ∧ (∀ r, r < n + 2 → V r 0 = ((n + m : Nat) : Int)) ∧ (∀ r, 0 < r → r < n + 2 → V r 1 = (r : Int) - 1) ∧
    (∀ c, c < k → V 0 c = ((n + m : Nat) : Int)) ∧ ∀ c, 0 < c → c < k → V 1 c = (c : Int) - 1

theorem edge_start {w wr : World} {n m : Nat} (h : Made w wr n m (n + 2)) : Edge w wr n m 0 :=
  ⟨h.size, h.below, row1 n m, made_grid h, fun r _ => by simp [row1], fun r h0 _ => by simp [row1, h0], fun c hc => by omega, fun c _ hc => by omega⟩

theorem edge_facts {w wr : World} {n m k : Nat} (h : Edge w wr n m k) (hk : k < m + 2) : wr.cell? ⟨w.heap.size, 0, none⟩ = some (.slice (some ⟨w.heap.size + 1, 0, none⟩) (m + 2) (m + 2)) ∧ wr.cell? ⟨w.heap.size, 1, none⟩ = some (.slice (some ⟨w.heap.size + 2, 0, none⟩) (m + 2) (m + 2)) ∧
    (∃ v, wr.cell? ⟨w.heap.size + 1, k, none⟩ = some (.int .i64 v)) ∧ (∃ v, wr.cell? ⟨w.heap.size + 2, k, none⟩ = some (.int .i64 v)) ∧ wr.frozen? ⟨w.heap.size + 1, k, none⟩ = false ∧ wr.frozen? ⟨w.heap.size + 2, k, none⟩ = false := by
  obtain ⟨_, _, V, g, _⟩ := h
  exact ⟨g.head (r := 0) (by omega), g.head (r := 1) (by omega), ⟨_, g.cell (r := 0) (by omega) hk⟩, ⟨_, g.cell (r := 1) (by omega) hk⟩, g.free (r := 0) (by omega) k, g.free (r := 1) (by omega) k⟩

theorem edge_step {w wr : World} {n m k : Nat} (h : Edge w wr n m k) :
    (0 < k → Edge w ((wr.setCell ⟨w.heap.size + 1, k, none⟩ (.int .i64 ((n : Int) + (m : Int)))).setCell ⟨w.heap.size + 2, k, none⟩ (.int .i64 ((k : Int) - 1))) n m (k + 1)) ∧
    (¬ 0 < k → Edge w (wr.setCell ⟨w.heap.size + 1, k, none⟩ (.int .i64 ((n : Int) + (m : Int)))) n m (k + 1)) := by
  obtain ⟨hs, hb, V, g, v0, v1, t0, t1⟩ := h
  have g1 := g.set 0 k ((n : Int) + (m : Int))
  have b1 : Below w.heap.size w (wr.setCell ⟨w.heap.size + 1, k, none⟩ (.int .i64 ((n : Int) + (m : Int)))) := hb.setCell (by simp) _
  constructor
  · intro hk
    have g2 := g1.set 1 k ((k : Int) - 1)
    refine ⟨by simpa [World.setCell] using hs, b1.setCell (by simp) _, _, g2, fun r hr => ?_, fun r h0 hr => ?_, fun c hc => ?_, fun c h0 hc => ?_⟩
    · have := v0 r hr
      unfold upd
      repeat' split
      all_goals omega
    · have := v1 r h0 hr
      unfold upd
      repeat' split
      all_goals omega
    · rcases Nat.lt_or_ge c k with hck | hck
      · have := t0 c hck
        unfold upd
        repeat' split
        all_goals omega
      · unfold upd
        repeat' split
        all_goals omega
    · rcases Nat.lt_or_ge c k with hck | hck
      · have := t1 c h0 hck
        unfold upd
        repeat' split
        all_goals omega
      · unfold upd
        repeat' split
        all_goals omega
  · intro hk
    refine ⟨by simpa [World.setCell] using hs, b1, _, g1, fun r hr => ?_, fun r h0 hr => ?_, fun c hc => ?_, fun c h0 hc => ?_⟩
    · have := v0 r hr
      unfold upd
      repeat' split
      all_goals omega
    · have := v1 r h0 hr
      unfold upd
      repeat' split
      all_goals omega
    · rcases Nat.lt_or_ge c k with hck | hck
      · have := t0 c hck
        unfold upd
        repeat' split
        all_goals omega
      · unfold upd
        repeat' split
        all_goals omega
    · omega

/-- THE TABLE's STATE: all rows below row i, and row i + 1 up to column j: filled; the map knows the rows ahead of i (i, j from 1 on) -/
def Filled (w wr : World) (Bm n m : Nat) (A B : Nat → Int) (i j : Nat) : Prop :=
  Below w.heap.size w wr ∧ LastMap wr Bm (i - 1) A ∧ ∃ V, Grid wr w.heap.size (n + 2) (m + 2) V ∧ ∀ r c, r < n + 2 → c < m + 2 → (r ≤ i ∨ c ≤ 1 ∨ (r = i + 1 ∧ c ≤ j)) → V r c = ((Ed.mat A B (n + m) r c : Nat) : Int)

theorem filled_start {w wr : World} {n m : Nat} (A B : Nat → Int) (h : Edge w wr n m (m + 2)) : Filled w (wr.alloc (.map #[] 0)) wr.heap.size n m A B 1 1 := by
  obtain ⟨hs, hb, V, g, v0, v1, t0, t1⟩ := h
  refine ⟨hb.alloc (by omega) _, LastMap.made wr A, V, ⟨g.heads.alloc _, fun r hr => (g.rows r hr).alloc _⟩, fun r c hr hc h => ?_⟩
  match r, c with
  | 0, c => rw [t0 c hc, Ed.mat_zero_left]
  | r + 1, 0 => rw [v0 _ hr, Ed.mat_zero_right]
  | 1, c + 1 => rw [t1 (c + 1) (by omega) hc, Ed.mat_one_left]; omega
  | r + 2, 1 => rw [v1 (r + 2) (by omega) hr, show r + 2 = (r + 1) + 1 from rfl, Ed.mat_one_right]; omega
  | r + 2, c + 2 => omega

theorem filled_step {w wr : World} {Bm n m i j : Nat} {A B : Nat → Int} (h : Filled w wr Bm n m A B i j) (hBm : w.heap.size + 1 + (n + 2) = Bm) (hi : i ≤ n) (x : Int) (hx : x = ((Ed.mat A B (n + m) (i + 1) (j + 1) : Nat) : Int)) :
    Filled w (wr.setCell ⟨w.heap.size + 1 + (i + 1), j + 1, none⟩ (.int .i64 x)) Bm n m A B i (j + 1) := by
  obtain ⟨hb, hl, V, g, hv⟩ := h
  refine ⟨hb.setCell (by simp; omega) _, hl.setCell (by simp; omega) _, _, g.set (i + 1) (j + 1) x, fun r c hr hc h => ?_⟩
  simp only [upd]
  split
  · rename_i e; obtain ⟨rfl, rfl⟩ := e; exact hx
  · exact hv r c hr hc (by omega)

/-- what a round of the inner loop reads and writes -/
theorem filled_facts {w wr : World} {Bm n m i j kk ll : Nat} {A B : Nat → Int} (h : Filled w wr Bm n m A B i j) (hi : i ≤ n) (hj : j ≤ m) (hk : kk < i) (hl : ll < j) :
    ∃ (R0 R1 Rk x0 x1 x2 x3 : Nat) (x4 : Int), (x0 = Ed.mat A B (n + m) i j ∧ x1 = Ed.mat A B (n + m) (i + 1) j ∧ x2 = Ed.mat A B (n + m) i (j + 1) ∧ x3 = Ed.mat A B (n + m) kk ll ∧ R1 = w.heap.size + 1 + (i + 1)) ∧
      (x0 ≤ n + m ∧ x1 ≤ n + m ∧ x2 ≤ n + m ∧ x3 ≤ n + m) ∧
      wr.cell? ⟨w.heap.size, i, none⟩ = some (.slice (some ⟨R0, 0, none⟩) (m + 2) (m + 2)) ∧ wr.cell? ⟨w.heap.size, i + 1, none⟩ = some (.slice (some ⟨R1, 0, none⟩) (m + 2) (m + 2)) ∧ wr.cell? ⟨w.heap.size, kk, none⟩ = some (.slice (some ⟨Rk, 0, none⟩) (m + 2) (m + 2)) ∧
      wr.cell? ⟨R0, j, none⟩ = some (.int .i64 (x0 : Int)) ∧ wr.cell? ⟨R1, j, none⟩ = some (.int .i64 (x1 : Int)) ∧ wr.cell? ⟨R0, j + 1, none⟩ = some (.int .i64 (x2 : Int)) ∧ wr.cell? ⟨Rk, ll, none⟩ = some (.int .i64 (x3 : Int)) ∧
      wr.cell? ⟨R1, j + 1, none⟩ = some (.int .i64 x4) ∧ wr.frozen? ⟨R1, j + 1, none⟩ = false := by
  obtain ⟨hb, hlm, V, g, hv⟩ := h
  refine ⟨w.heap.size + 1 + i, w.heap.size + 1 + (i + 1), w.heap.size + 1 + kk, _, _, _, _, V (i + 1) (j + 1), ⟨rfl, rfl, rfl, rfl, rfl⟩, ⟨?_, ?_, ?_, ?_⟩, g.head (by omega), g.head (by omega), g.head (by omega), ?_, ?_, ?_, ?_, g.cell (by omega) (by omega), g.free (by omega) _⟩
  · exact Ed.mat_le_all A B (n + m) n m rfl i j (by omega) (by omega)
  · exact Ed.mat_le_all A B (n + m) n m rfl (i + 1) j (by omega) (by omega)
  · exact Ed.mat_le_all A B (n + m) n m rfl i (j + 1) (by omega) (by omega)
  · exact Ed.mat_le_all A B (n + m) n m rfl kk ll (by omega) (by omega)
  · rw [g.cell (r := i) (c := j) (by omega) (by omega), hv i j (by omega) (by omega) (by omega)]
  · rw [g.cell (r := i + 1) (c := j) (by omega) (by omega), hv (i + 1) j (by omega) (by omega) (by omega)]
  · rw [g.cell (r := i) (c := j + 1) (by omega) (by omega), hv i (j + 1) (by omega) (by omega) (by omega)]
  · rw [g.cell (r := kk) (c := ll) (by omega) (by omega), hv kk ll (by omega) (by omega) (by omega)]

theorem filled_alike {w wa wb : World} {Bm n m i j : Nat} {A B : Nat → Int} (h : Filled w wa Bm n m A B i j) (hh : wb.heap = wa.heap) (h1 : wb.os = wa.os) (h2 : wb.tape = wa.tape) (h3 : wb.output = wa.output) : Filled w wb Bm n m A B i j := by
  obtain ⟨hb, ⟨Dm, hl, hl'⟩, V, g, hv⟩ := h
  refine ⟨⟨h1.trans hb.os, h2.trans hb.tape, h3.trans hb.output, by rw [hh]; exact hb.size, fun k hk => by rw [hh]; exact hb.block k hk⟩, ⟨Dm, ?_, hl'⟩, V, ⟨g.heads.of_block (by rw [hh]), fun r hr => (g.rows r hr).of_block (by rw [hh])⟩, hv⟩
  obtain ⟨es, clock, e1, e2⟩ := hl
  exact ⟨es, clock, by rw [hh]; exact e1, e2⟩

theorem filled_end {w wr : World} {Bm n m i : Nat} {A B : Nat → Int} (h : Filled w wr Bm n m A B i 1) (hi : i = n + 1) :
    ∃ R x : Nat, x = Ed.mat A B (n + m) (n + 1) (m + 1) ∧ wr.cell? ⟨w.heap.size, n + 1, none⟩ = some (.slice (some ⟨R, 0, none⟩) (m + 2) (m + 2)) ∧ wr.cell? ⟨R, m + 1, none⟩ = some (.int .i64 (x : Int)) := by
  obtain ⟨hb, hlm, V, g, hv⟩ := h
  refine ⟨w.heap.size + 1 + (n + 1), _, rfl, g.head (by omega), ?_⟩
  rw [g.cell (r := n + 1) (c := m + 1) (by omega) (by omega), hv (n + 1) (m + 1) (by omega) (by omega) (by omega)]

theorem filled_drewN {w wr : World} {Bm n m i j : Nat} {A B : Nat → Int} (h : Filled w wr Bm n m A B i j) (q : Nat) : Filled w (wr.drewN q) Bm n m A B i j := by
  obtain ⟨hb, hl, V, g, hv⟩ := h
  exact ⟨⟨hb.os, hb.tape, hb.output, hb.size, hb.block⟩, hl, V, ⟨g.heads, g.rows⟩, hv⟩

theorem filled_row {w wr w' : World} {Bm n m i : Nat} {A B : Nat → Int} (h : Filled w wr Bm n m A B i (m + 1)) (hBm : w.heap.size + 1 + (n + 2) = Bm) (hm : LastMap w' Bm i A) (hg : wr.grownBy w' (some Bm)) (hlt : w.heap.size ≤ wr.heap.size) : Filled w w' Bm n m A B (i + 1) 1 := by
  obtain ⟨hb, hl, V, g, hv⟩ := h
  refine ⟨hb.grown hg hlt (fun k hk => by cases hk; omega), by simpa using hm, V, g.grown hg (by omega), fun r c hr hc h => hv r c hr hc (by omega)⟩

theorem made_facts {w wr w2 : World} {n m k : Nat} (h : Made w wr n m k) (hk : k < n + 2) (hr : RowB w2 (w.heap.size + 1 + k) 3 (m + 2) (fun _ => .int .i64 0)) (hb : Below (w.heap.size + 1 + k) wr w2) :
    w2.cell? ⟨w.heap.size, k, none⟩ = some (.slice none 0 0) ∧ w2.frozen? ⟨w.heap.size, k, none⟩ = false ∧ w2.cell? ⟨w.heap.size + 1 + k, 0, none⟩ = some (.int .i64 0) ∧ w2.frozen? ⟨w.heap.size + 1 + k, 0, none⟩ = false ∧
      w2.cell? ⟨w.heap.size + 1 + k, 1, none⟩ = some (.int .i64 0) ∧ w2.frozen? ⟨w.heap.size + 1 + k, 1, none⟩ = false := by
  have h1 : RowB w2 w.heap.size 23 (n + 2) (heads w.heap.size (m + 2) k) := h.heads.below hb (by omega)
  exact ⟨by rw [h1.cell hk]; simp [heads], h1.free k, hr.cell (by omega), hr.free 0, hr.cell (by omega), hr.free 1⟩

set_option maxRecDepth 100000 in
set_option maxHeartbeats 8000000 in
theorem edit_any (ao bo : Option Addr) (n m ca cb : Nat) (A B : Nat → Int) (w : World) (ha : RowIn w .i32 ao n A) (hb : RowIn w .i32 bo m B) (hn : n ≤ 1024) (hm : m ≤ 1024)
    (wa : ∀ i, i < n → (Lit.int .i32 (A i)).wf = true) (wb : ∀ i, i < m → (Lit.int .i32 (B i)).wf = true) :
    Calls Try.prog 30 #[.slice ao n ca, .slice bo m cb] w fun e w' => e = .returned (.int .i64 ((Ed.mat A B (n + m) (n + 1) (m + 1) : Nat) : Int)) ∧ Below w.heap.size w w' := by
  have hmin := @run_min4 Try.prog
  have hmm := run_makeMap_hint (P := Try.prog) 53 21 3 Try.underlying53
  go_enter Try.func30, Try.ntmps30
  go_wp2_with (at_make; refine wp_mkRow _ rfl _ _ 52 rfl 23 (.slice none 0 0) 24 Try.underlying52 info23 rfl _ _ (n + 2) rfl rfl (by omega) (by omega) (by omega) (by omega) ?_; intro w1 hrow hbel hsz)
  go_loopw [27] (fun i wr => ∃ k : Nat, k ≤ n + 2 ∧ i = .int .i64 k ∧ Made w wr n m k) (fun i _ => n + 2 - (intOf i).toNat)
  case atStart => exact ⟨0, Nat.zero_le _, rfl, ⟨by omega, hbel, hrow.congr (fun j _ => by simp [heads]), fun r hr => by omega⟩⟩
  case round =>
    obtain ⟨k, hk, rfl, hmade⟩ := hrel
    clear hrow hbel hsz
    by_cases hlt : k < n + 2
    · have hD : Hid (w.heap.size + 1 + k = wr.heap.size) := hmade.size.symm
      by_cases hpos : 0 < k
      · go_wp2_with (at_make; refine wp_mkRow _ rfl _ _ 23 rfl 3 (.int .i64 0) 8 Try.underlying23 info3 rfl _ _ (m + 2) rfl rfl (by omega) (by omega) (by omega) (by omega) ?_; rw [← hD.out]; intro w2 hr2 hb2 hs2; obtain ⟨c0, f0, c1, f1, c2, f2⟩ := made_facts hmade hlt hr2 hb2; have R := fun wf => made_step hmade hlt hr2 hb2 hs2 wf; have RH : Hid (∀ wf, _ → Made w wf n m (k + 1)) := R; clear R hr2 hb2 hs2 hmade)
        go_roundw
        case rel => exact ⟨k + 1, by omega, by go_num, RH.out _ (by rw [if_pos hpos])⟩
        case measure => simp [intOf]; omega
      · go_wp2_with (at_make; refine wp_mkRow _ rfl _ _ 23 rfl 3 (.int .i64 0) 8 Try.underlying23 info3 rfl _ _ (m + 2) rfl rfl (by omega) (by omega) (by omega) (by omega) ?_; rw [← hD.out]; intro w2 hr2 hb2 hs2; obtain ⟨c0, f0, c1, f1, c2, f2⟩ := made_facts hmade hlt hr2 hb2; have R := fun wf => made_step hmade hlt hr2 hb2 hs2 wf; have RH : Hid (∀ wf, _ → Made w wf n m (k + 1)) := R; clear R hr2 hb2 hs2 hmade)
        go_roundw
        case rel => exact ⟨k + 1, by omega, by go_num, RH.out _ (by rw [if_neg hpos])⟩
        case measure => simp [intOf]; omega
    · obtain rfl : k = n + 2 := by omega
      have hedge := edge_start hmade
      have hh := edge_facts hedge (by omega)
      obtain ⟨hh0, -⟩ := hh
      clear hmade
      go_wp2_with fail
      go_loopw [57] (fun i wr => ∃ k : Nat, k ≤ m + 2 ∧ i = .int .i64 k ∧ Edge w wr n m k) (fun i _ => m + 2 - (intOf i).toNat)
      case atStart => exact ⟨0, Nat.zero_le _, rfl, hedge⟩
      case round =>
        clear hedge hh0
        obtain ⟨k, hk, rfl, hedge⟩ := hrel
        by_cases hlt : k < m + 2
        · obtain ⟨c0, c1, ⟨v2, c2⟩, ⟨v3, c3⟩, f2, f3⟩ := edge_facts hedge hlt
          have E : Hid _ := edge_step hedge
          clear hedge
          by_cases hpos : 0 < k
          · go_wp2
            go_roundw
            case rel => exact ⟨k + 1, by omega, by go_num, E.out.1 hpos⟩
            case measure => simp [intOf]; omega
          · go_wp2
            go_roundw
            case rel => exact ⟨k + 1, by omega, by go_num, E.out.2 hpos⟩
            case measure => simp [intOf]; omega
        · obtain rfl : k = m + 2 := by omega
          have hfill := filled_start A B hedge
          obtain ⟨Bm, hBm⟩ : ∃ Bm, wr.heap.size = Bm := ⟨_, rfl⟩
          have HB : Hid (w.heap.size + 1 + (n + 2) = Bm) := by rw [← hBm]; exact hedge.1.symm
          rw [hBm] at hfill
          clear hedge
          go_wp2_with fail
          go_loopw [10] (fun i wr => ∃ k : Nat, 1 ≤ k ∧ k ≤ n + 1 ∧ i = .int .i64 k ∧ Filled w wr Bm n m A B k 1) (fun i _ => n + 1 - (intOf i).toNat)
          case atStart => exact ⟨1, by omega, by omega, rfl, hfill⟩
          case round =>
            clear hfill
            obtain ⟨i, hi1, hi2, rfl, hfill⟩ := hrel
            by_cases hin : i ≤ n
            · have hin' : (i : Int) ≤ (n : Int) := by omega
              go_wp2_with fail
              go_loopw [11, 12] (fun lc j wr => ∃ j0 l0 : Nat, 1 ≤ j0 ∧ j0 ≤ m + 1 ∧ j = .int .i64 j0 ∧ lc = .int .i64 l0 ∧ l0 = Ed.last B (j0 - 1) (A (i - 1)) ∧ Filled w wr Bm n m A B i j0) (fun _ j _ => m + 1 - (intOf j).toNat)
              case atStart => exact ⟨1, 0, by omega, by omega, rfl, rfl, rfl, hfill⟩
              case round =>
                clear hfill
                obtain ⟨j, ll, hj1, hj2, rfl, rfl, hll, hfill⟩ := hrel
                by_cases hjm : j ≤ m
                · obtain ⟨b1, o1, e1, hb1, hc1⟩ := ha (by omega)
                  obtain ⟨b2, o2, e2, hb2, hc2⟩ := hb (by omega)
                  cases e1
                  cases e2
                  have hra : wr.cell? ⟨b1, o1 + (i - 1), none⟩ = some (.int .i32 (A (i - 1))) := (hfill.1.cell (p := ⟨b1, o1 + (i - 1), none⟩) hb1).trans (hc1 (i - 1) (by omega))
                  have hrb : wr.cell? ⟨b2, o2 + (j - 1), none⟩ = some (.int .i32 (B (j - 1))) := (hfill.1.cell (p := ⟨b2, o2 + (j - 1), none⟩) hb2).trans (hc2 (j - 1) (by omega))
                  have hi3 : (1 : Int) ≤ (i : Int) := by omega
                  have hj3 : (1 : Int) ≤ (j : Int) := by omega
                  have hin' : (i : Int) ≤ (n : Int) := by omega
                  have hjm' : (j : Int) ≤ (m : Int) := by omega
                  have hw := wb (j - 1) (by omega)
                  have hmap := hfill.2.1
                  obtain ⟨kk, hkk⟩ : ∃ kk, kk = Ed.last A (i - 1) (B (j - 1)) := ⟨_, rfl⟩
                  have hkk1 : kk < i := by have := Ed.last_le A (i - 1) (B (j - 1)); omega
                  have hll1 : ll < j := by have := Ed.last_le B (j - 1) (A (i - 1)); omega
                  obtain ⟨R0, R1, Rk, x0, x1, x2, x3, x4, hxs, ⟨hy0, hy1, hy2, hy3⟩, g1, g2, g3, g4, g5, g6, g7, g8, g9⟩ := filled_facts hfill hin hjm hkk1 hll1
                  have XS := hide hxs
                  have KK := hide hkk
                  have LL := hide hll
                  have FF : Hid _ := hfill
                  clear hxs hkk hll hfill hc1 hc2 wa wb
                  by_cases hab : A (i - 1) = B (j - 1)
                  · have hab' : (A (i - 1) == B (j - 1)) = true := by simp [hab]
                    have AB := hide hab
                    clear hab
                    go_wp2_with (at_lookup; refine wp_look rfl _ _ rfl Bm (i - 1) A rfl (B (j - 1)) rfl hw hmap kk (KK.out) ?_; clear hmap)
                    go_quiet (fail)
                    go_wp2_with fail
                    refine wp_region_quiet_tail 54 (by kernel_rfl) (by kernel_rfl) ?_
                    simp only [List.take_succ_cons, List.take_zero, List.drop_succ_cons, List.drop_zero]
                    repeat (go_big_quiet_step (fail))
                    refine wpQuiet_nil ?_
                    go_wp2
                    go_roundw
                    case rel =>
                      obtain ⟨q0, q1, q2, q3, rfl⟩ := XS.out
                      repeat apply Exists.intro
                      refine ⟨?_, rfl⟩
                      refine ⟨j + 1, j, by omega, by omega, by go_num, rfl, by rw [last_next hj1, if_pos AB.out], ?_⟩
                      refine filled_alike (filled_step FF.out HB.out hin _ (next_cell hi1 hj1 KK.out LL.out q0 q1 q2 q3 0 (by rw [if_pos AB.out]))) ?_ rfl rfl rfl
                      simp [World.setCell]
                    case measure => simp [intOf]; omega
                  · have hab' : (A (i - 1) == B (j - 1)) = false := by simp [hab]
                    have AB := hide hab
                    clear hab
                    go_wp2_with (at_lookup; refine wp_look rfl _ _ rfl Bm (i - 1) A rfl (B (j - 1)) rfl hw hmap kk (KK.out) ?_; clear hmap)
                    go_quiet (fail)
                    go_wp2_with fail
                    refine wp_region_quiet_tail 54 (by kernel_rfl) (by kernel_rfl) ?_
                    simp only [List.take_succ_cons, List.take_zero, List.drop_succ_cons, List.drop_zero]
                    repeat (go_big_quiet_step (fail))
                    refine wpQuiet_nil ?_
                    go_wp2
                    go_roundw
                    case rel =>
                      obtain ⟨q0, q1, q2, q3, rfl⟩ := XS.out
                      repeat apply Exists.intro
                      refine ⟨?_, rfl⟩
                      refine ⟨j + 1, ll, by omega, by omega, by go_num, rfl, by rw [last_next hj1, if_neg AB.out]; exact LL.out, ?_⟩
                      refine filled_alike (filled_step FF.out HB.out hin _ (next_cell hi1 hj1 KK.out LL.out q0 q1 q2 q3 1 (by rw [if_neg AB.out]))) ?_ rfl rfl rfl
                      rfl
                    case measure => simp [intOf]; omega
                · obtain rfl : j = m + 1 := by omega
                  obtain ⟨b1, o1, e1, hb1, hc1⟩ := ha (by omega)
                  cases e1
                  have hra : wr.cell? ⟨b1, o1 + (i - 1), none⟩ = some (.int .i32 (A (i - 1))) := (hfill.1.cell (p := ⟨b1, o1 + (i - 1), none⟩) hb1).trans (hc1 (i - 1) (by omega))
                  have hi3 : (1 : Int) ≤ (i : Int) := by omega
                  have hw := wa (i - 1) (by omega)
                  have hmap := hfill.2.1
                  have FF : Hid _ := hfill
                  have FS := hide hfill.1.size
                  clear hfill hc1
                  go_wp2_with (at_mapUpdate; refine wp_note rfl _ _ _ rfl Bm (i - 1) A rfl rfl _ rfl (by omega) hw (by omega) hmap ?_; intro w' hm' hg')
                  go_roundw
                  case rel =>
                    rw [show i - 1 + 1 = i from by omega] at hm'
                    repeat apply Exists.intro
                    refine ⟨?_, rfl⟩
                    exact ⟨i + 1, by omega, by omega, by go_num, filled_row FF.out HB.out hm' hg' FS.out⟩
                  case measure => simp [intOf]; omega
            · obtain ⟨R, x, hx, h1, h2⟩ := filled_end hfill (by omega)
              have X := hide hx
              have FB := hide hfill.1
              clear hx hfill
              go_wp2
              go_ret
              exact ⟨ret_int (by rw [X.out]), FB.out⟩

end Go.Proofs.Qxb6001121a.EdWalk
