/-
  THE TABLE AND THE MAP of editDistance in memory.
-/
import Derived.Test.Qxb6001121aEdPlain
import Derived.Test.Qxb6001121aEdBase
namespace Go.Proofs.Qxb6001121a.EdMem
open Go.RowKit Go.Maps Go.Proofs.Qxb6001121a.Mem Go.Proofs.Qxb6001121a.EdBase

/-- A TABLE OF N ROWS OF M NUMBERS: the rows' heads in block D, row r in block D + 1 + r -/
structure Grid (w : World) (D N M : Nat) (V : Nat → Nat → Int) : Prop where
  heads : RowB w D 23 N (fun r => .slice (some ⟨D + 1 + r, 0, none⟩) M M)
  rows : ∀ r, r < N → RowB w (D + 1 + r) 3 M (fun c => .int .i64 (V r c))

def upd (V : Nat → Nat → Int) (r c : Nat) (x : Int) : Nat → Nat → Int := fun r' c' => if r' = r ∧ c' = c then x else V r' c'
theorem upd_same (V : Nat → Nat → Int) (r c : Nat) (x : Int) : upd V r c x r c = x := by simp [upd]
theorem upd_row (V : Nat → Nat → Int) {r c r' c' : Nat} (x : Int) (h : r' ≠ r) : upd V r c x r' c' = V r' c' := by simp [upd, h]
theorem upd_col (V : Nat → Nat → Int) {r c r' c' : Nat} (x : Int) (h : c' ≠ c) : upd V r c x r' c' = V r' c' := by simp [upd, h]

theorem Grid.head {w : World} {D N M : Nat} {V : Nat → Nat → Int} (h : Grid w D N M V) {r : Nat} (hr : r < N) : w.cell? ⟨D, r, none⟩ = some (.slice (some ⟨D + 1 + r, 0, none⟩) M M) := h.heads.cell hr
theorem Grid.cell {w : World} {D N M : Nat} {V : Nat → Nat → Int} (h : Grid w D N M V) {r c : Nat} (hr : r < N) (hc : c < M) : w.cell? ⟨D + 1 + r, c, none⟩ = some (.int .i64 (V r c)) := (h.rows r hr).cell hc
theorem Grid.free {w : World} {D N M : Nat} {V : Nat → Nat → Int} (h : Grid w D N M V) {r : Nat} (hr : r < N) (c : Nat) : w.frozen? ⟨D + 1 + r, c, none⟩ = false := (h.rows r hr).free c
theorem Grid.set {w : World} {D N M : Nat} {V : Nat → Nat → Int} (h : Grid w D N M V) (r c : Nat) (x : Int) : Grid (w.setCell ⟨D + 1 + r, c, none⟩ (.int .i64 x)) D N M (upd V r c x) := by
  refine ⟨h.heads.other (by simp; omega) _, fun r' hr' => ?_⟩
  by_cases e : r' = r
  · subst e
    refine ((h.rows r' hr').set c (.int .i64 x)).congr fun j _ => ?_
    by_cases ej : j = c
    · subst ej; simp [upd]
    · simp [upd, ej]
  · exact ((h.rows r' hr').other (by simp; omega) _).congr fun j _ => by simp [upd, e]
theorem Grid.below {w w' : World} {D N M : Nat} {V : Nat → Nat → Int} (h : Grid w D N M V) {B : Nat} (hb : Below B w w') (hB : D + 1 + N ≤ B) : Grid w' D N M V :=
  ⟨h.heads.below hb (by omega), fun r hr => (h.rows r hr).below hb (by omega)⟩
theorem Grid.grown {w w' : World} {D N M : Nat} {V : Nat → Nat → Int} (h : Grid w D N M V) {b : Nat} (hg : w.grownBy w' (some b)) (hb : D + 1 + N ≤ b) : Grid w' D N M V :=
  ⟨h.heads.grown hg (by simp; omega), fun r hr => (h.rows r hr).grown hg (by simp; omega)⟩
theorem Grid.drew {w : World} {D N M : Nat} {V : Nat → Nat → Int} (h : Grid w D N M V) : Grid w.drew D N M V := ⟨h.heads, h.rows⟩
theorem Grid.drewN {w : World} {D N M : Nat} {V : Nat → Nat → Int} (h : Grid w D N M V) (q : Nat) : Grid (w.drewN q) D N M V := ⟨h.heads, h.rows⟩

theorem law21 : Keyed Try.prog 21 := int_keyed Try.underlying21
theorem zero3 (w : World) : (zeroValue 3).run Try.prog w = .ok (.int .i64 0) w := by kernel_rfl

/-- THE MAP lastRow after k rows: of each number the last place at which it stands -/
def LastMap (w : World) (b k : Nat) (A : Nat → Int) : Prop :=
  ∃ Dm : DataW Unit, w.ownsMap Try.prog 21 (plainElem Try.prog 3) b k Dm ∧
    ∀ c : Int, (Lit.int .i32 c).wf = true → Dm.atKey (.int .i32 c) (.lit (.int .i64 0)) = .lit (.int .i64 ((Ed.last A k c : Nat) : Int))

theorem LastMap.made (w : World) (A : Nat → Int) : LastMap (w.alloc (.map #[] 0)) w.heap.size 0 A :=
  ⟨.map [], World.ownsMap_made _ _ _ _, fun _ _ => rfl⟩
theorem LastMap.drewN {w : World} {b k : Nat} {A : Nat → Int} (h : LastMap w b k A) (q : Nat) : LastMap (w.drewN q) b k A := h
theorem LastMap.drew {w : World} {b k : Nat} {A : Nat → Int} (h : LastMap w b k A) : LastMap w.drew b k A := h
theorem LastMap.setCell {w : World} {b k : Nat} {A : Nat → Int} (h : LastMap w b k A) {a : Addr} (ha : b ≠ a.block) (u : Value) : LastMap (w.setCell a u) b k A := by
  obtain ⟨Dm, h1, h2⟩ := h
  exact ⟨Dm, h1.setCell ha u, h2⟩

/-- 'lastRow[x]' -/
theorem wp_look {w : World} {ops : Array Oper} {rest : List Oper} {o : Oper} {a : Act} {Q : Exit → Act → World → Prop}
    (hg : o.guard = none) (m x : Operand) (hop : o.op = Op.lookup 53 m x false) (b k : Nat) (A : Nat → Int) (hm : a.eval m = .map (some b)) (key : Int) (hx : a.eval x = .int .i32 key)
    (hw : (Lit.int .i32 key).wf = true) (h : LastMap w b k A) (kk : Nat) (hkk : kk = Ed.last A k key) (hK : wpList Try.prog ops Q rest (a.put o.dst (.int .i64 (kk : Int))) w) :
    wpList Try.prog ops Q (o :: rest) a w := by
  obtain ⟨Dm, h1, h2⟩ := h
  rw [hkk] at hK
  refine wpList_lookup_own_int w hg m x 53 hop 21 3 .i64 law21 Try.underlying53 Try.underlying3 (zero3 _) b k Dm hm h1 (.int .i32 key) (.int .i32 key) hx (keyOf_int_mk Try.underlying21 hw) ?_
  intro c hat _
  rw [h2 key hw] at hat
  have e : ((Ed.last A k key : Nat) : Int) = c := by simpa using hat
  rw [← e]
  exact hK

/-- 'lastRow[a[k]] = k + 1' -/
theorem wp_note {w : World} {ops : Array Oper} {rest : List Oper} {o : Oper} {a : Act} {Q : Exit → Act → World → Prop}
    (hg : o.guard = none) (m x v : Operand) (hop : o.op = Op.mapUpdate 53 m x v) (b k : Nat) (A : Nat → Int) (hm : a.eval m = .map (some b)) (hx : a.eval x = .int .i32 (A k)) (n : Int) (hv : a.eval v = .int .i64 n) (hn : n = ((k + 1 : Nat) : Int))
    (hw : (Lit.int .i32 (A k)).wf = true) (hk : k ≤ 1048576) (h : LastMap w b k A) (hK : ∀ w', LastMap w' b (k + 1) A → w.grownBy w' (some b) → wpList Try.prog ops Q rest (a.put o.dst undef) w') :
    wpList Try.prog ops Q (o :: rest) a w := by
  obtain ⟨Dm, h1, h2⟩ := h
  subst hn
  refine wpList_mapUpdate_own w hg m x v 53 hop 21 3 law21 Try.underlying53 (plainElem Try.prog 3) b k Dm hm h1 (by unfold maxLen; omega) (.int .i32 (A k)) (.int .i64 ((k + 1 : Nat) : Int)) (.int .i32 (A k)) hx hv (keyOf_int_mk Try.underlying21 hw) (.lit (.int .i64 ((k + 1 : Nat) : Int))) [] (plainElem_int Try.underlying3 (WalkArith.wf_i64 (by omega))) ?_
  intro w' h3 h4
  refine hK w' ⟨_, h3, fun c hc => ?_⟩ h4
  rw [Ed.last_succ]
  by_cases e : A k = c
  · subst e
    rw [if_pos rfl]
    exact atKey_put_same h1.isMap (by simp [WideAt.IsKeyLit]) _ _
  · rw [if_neg e, ← h2 c hc]
    exact atKey_put_other (by simpa using fun h => e h.symm) _ _

end Go.Proofs.Qxb6001121a.EdMem
