/-
  MEMORY: a block that is a row of cells, known cell by cell; the law of a 'make' that leaves a world under one name; a region that only reads and ends in one store.
-/
import Derived.Test.Qxb6601398aRows
import Derived.WalkKit
import Derived.WalkSpells
import Derived.Deep.OwnRows
import Derived.StillTail
import Derived.BigQuiet
import Derived.Deep.DeepCutAuto
import Derived.ArgAppend
import Derived.Lib.SliceRun
namespace Go.Proofs.Qxb6601398a.Mem
open Go.RowKit

/-- BLOCK b IS A ROW OF n CELLS, f i AT PLACE i, none frozen -/
def RowB (w : World) (b : Nat) (e : TypeId) (n : Nat) (f : Nat → Value) : Prop :=
  ∃ cur : Array Value, w.heap[b]? = some (.cells cur e (0, 0)) ∧ cur.size = n ∧ ∀ i, i < n → cur[i]? = some (f i)

theorem RowB.lt {w : World} {b : Nat} {e : TypeId} {n : Nat} {f : Nat → Value} (h : RowB w b e n f) : b < w.heap.size := by
  obtain ⟨cur, hb, _⟩ := h
  exact (Array.getElem?_eq_some_iff.1 hb).1
theorem RowB.cell {w : World} {b : Nat} {e : TypeId} {n : Nat} {f : Nat → Value} (h : RowB w b e n f) {i : Nat} (hi : i < n) : w.cell? ⟨b, i, none⟩ = some (f i) := by
  obtain ⟨cur, hb, hs, hc⟩ := h
  simp only [World.cell?, hb]
  exact hc i hi
theorem RowB.free {w : World} {b : Nat} {e : TypeId} {n : Nat} {f : Nat → Value} (h : RowB w b e n f) (i : Nat) : w.frozen? ⟨b, i, none⟩ = false := by
  obtain ⟨cur, hb, _⟩ := h
  simp [World.frozen?, hb]
/-- blocks that are the same hold the same -/
theorem RowB.of_block {w w' : World} {b : Nat} {e : TypeId} {n : Nat} {f : Nat → Value} (h : RowB w b e n f) (hb : w'.heap[b]? = w.heap[b]?) : RowB w' b e n f := by
  obtain ⟨cur, h1, h2⟩ := h
  exact ⟨cur, hb.trans h1, h2⟩
theorem RowB.below {w w' : World} {B b : Nat} {e : TypeId} {n : Nat} {f : Nat → Value} (h : RowB w b e n f) (hb : Below B w w') (hlt : b < B) : RowB w' b e n f :=
  h.of_block (hb.block b hlt)
theorem RowB.grown {w w' : World} {r : Option Nat} {b : Nat} {e : TypeId} {n : Nat} {f : Nat → Value} (h : RowB w b e n f) (hg : w.grownBy w' r) (hne : some b ≠ r) : RowB w' b e n f :=
  h.of_block (hg.block b h.lt hne)
theorem RowB.drewN {w : World} {b : Nat} {e : TypeId} {n : Nat} {f : Nat → Value} (h : RowB w b e n f) (q : Nat) : RowB (w.drewN q) b e n f := h
theorem RowB.drew {w : World} {b : Nat} {e : TypeId} {n : Nat} {f : Nat → Value} (h : RowB w b e n f) : RowB w.drew b e n f := h
theorem RowB.alloc {w : World} {b : Nat} {e : TypeId} {n : Nat} {f : Nat → Value} (h : RowB w b e n f) (o : Obj) : RowB (w.alloc o) b e n f :=
  h.of_block (Below.heap_alloc w o b h.lt)
theorem RowB.congr {w : World} {b : Nat} {e : TypeId} {n : Nat} {f g : Nat → Value} (h : RowB w b e n f) (hfg : ∀ i, i < n → f i = g i) : RowB w b e n g := by
  obtain ⟨cur, h1, h2, h3⟩ := h
  exact ⟨cur, h1, h2, fun i hi => by rw [h3 i hi, hfg i hi]⟩
theorem RowB.set {w : World} {b : Nat} {e : TypeId} {n : Nat} {f : Nat → Value} (h : RowB w b e n f) (i : Nat) (v : Value) : RowB (w.setCell ⟨b, i, none⟩ v) b e n (fun j => if j = i then v else f j) := by
  obtain ⟨cur, hb, hs, hc⟩ := h
  refine ⟨cur.setIfInBounds i v, ?_, by simp [hs], fun j hj => ?_⟩
  · simp only [World.setCell, Array.getElem?_modify, hb]
    simp
  · by_cases e' : j = i
    · subst e'; simp [hs, hj]
    · rw [Array.getElem?_setIfInBounds_ne (by omega)]; simp only [if_neg e']; exact hc j hj
theorem RowB.other {w : World} {b : Nat} {e : TypeId} {n : Nat} {f : Nat → Value} (h : RowB w b e n f) {a : Addr} (hne : b ≠ a.block) (v : Value) : RowB (w.setCell a v) b e n f :=
  h.of_block (Below.heap_setCell w a v b hne)
theorem RowB.made (w : World) (e : TypeId) (z : Value) (n : Nat) : RowB (w.alloc (.cells (madeCells #[z] n) e)) w.heap.size e n (fun _ => z) := by
  refine ⟨madeCells #[z] n, heap_alloc_new w _, size_madeCells _ _, fun i hi => ?_⟩
  simp [madeCells, hi, Nat.mod_one]

/-- 'make([]T, n)': what stands behind it, in a world of which this alone is told -/
theorem wp_mkRow {P : Program} (w : World) {ops : Array Oper} {rest : List Oper} {o : Oper} {a : Act} {Q : Exit → Act → World → Prop}
    (hg : o.guard = none) (l c : Operand) (t : TypeId) (hop : o.op = Op.makeSlice t l c) (e : TypeId) (z : Value) (bytes : Nat) (ht : P.underlying t = some (.slice e))
    (hinfo : (P.info? e).map (fun i => (i.zero, i.size, i.bytes)) = some (some z, 1, bytes)) (hz1 : z.cells = #[z])
    (L C : Int) (n : Nat) (hl : a.eval l = .int .i64 L) (hc : a.eval c = .int .i64 C) (hL : L = (n : Int)) (hC : C = (n : Int)) (b2 : bytes * n ≤ 281474976710656) (b3 : n ≤ 9223372036854775807)
    (hK : ∀ w', RowB w' w.heap.size e n (fun _ => z) → Below w.heap.size w w' → w'.heap.size = w.heap.size + 1 → wpList P ops Q rest (a.put o.dst (.slice (some ⟨w.heap.size, 0, none⟩) n n)) w') :
    wpList P ops Q (o :: rest) a w := by
  refine wpList_plain hg fun K hK' => ?_
  have hrun := run_make_row' (P := P) t e z bytes ht hinfo hz1 .i64 .i64 n b2 b3 w
  subst hL
  subst hC
  unfold Oper.wp
  simp [execOp, hop, hl, hc, hrun, Result.andThen]
  exact hK' _ _ (hK _ (RowB.made w e z n) ((Below.refl _ _).alloc (Nat.le_refl _) _) (by simp))

/-- a walk that is quiet at one world is still there -/
theorem wpStill_of_quiet {P : Program} {ops : Array Oper} {w : World} {Q : Act → Prop} : ∀ (l : List Oper) (a : Act), wpQuiet P ops (fun x => x = w) Q l a → wpStill P ops w Q l a
  | [], _, h => h
  | o :: l, a, h => by
    unfold wpQuiet at h
    unfold wpStill
    split
    · rename_i hw
      rw [if_pos hw] at h
      obtain ⟨v, h1, h2⟩ := h
      have h3 := h1 w rfl
      unfold Oper.quietAt at h3
      unfold Oper.still
      generalize (execOp a.eval o).run P w = r at *
      cases r with
      | ok n w' =>
        cases n <;> simp only [Oper.quietUpon] at h3 <;> simp only [Oper.stillUpon]
        case value u =>
          obtain ⟨e1, e2⟩ := h3
          exact ⟨e1, by rw [e2]; exact wpStill_of_quiet l _ h2⟩
        case skip =>
          obtain ⟨e1, e2⟩ := h3
          exact ⟨e1, by rw [← e2]; exact wpStill_of_quiet l _ h2⟩
        case enter f args =>
          obtain ⟨e1, hc⟩ := h3
          exact ⟨e1, v, hc, wpStill_of_quiet l _ h2⟩
      | halt x w' => simp only [Oper.quietUpon] at h3
    · rename_i hw
      rw [if_neg hw] at h
      exact wpStill_of_quiet l _ h

/-- A REGION THAT DRAWS, READS, AND ENDS IN A TAIL THAT WAITS FOR ALL: one walk of the head, in the text's order, then the tail -/
theorem wp_region_quiet_tail {P : Program} {id : Nat} {Q : Exit → Act → World → Prop} {a : Act} {w : World} {l : List Oper} (n : Nat) (hm : P.follows .mixedOrders = true) (hB : Region.lexTailB .any l.toArray n = true)
    (h : wpQuiet P l.toArray (fun x => x = w.drew) (fun a' => wpList P l.toArray Q (l.drop n) a' w.drew) (l.take n) a) : (Code.region id l.toArray true).wp P Q a w :=
  wp_region_still_tail n hm hB (wpStill_of_quiet _ _ h)

/-- 'make([]T, 0, n)' -/
theorem wp_mkCap {P : Program} (w : World) {ops : Array Oper} {rest : List Oper} {o : Oper} {a : Act} {Q : Exit → Act → World → Prop}
    (hg : o.guard = none) (l c : Operand) (t : TypeId) (hop : o.op = Op.makeSlice t l c) (e : TypeId) (z : Value) (bytes : Nat) (ht : P.underlying t = some (.slice e))
    (hinfo : (P.info? e).map (fun i => (i.zero, i.size, i.bytes)) = some (some z, 1, bytes)) (hz1 : z.cells = #[z])
    (C : Int) (n : Nat) (hl : a.eval l = .int .i64 0) (hc : a.eval c = .int .i64 C) (hC : C = (n : Int)) (b2 : bytes * n ≤ 281474976710656) (b3 : n ≤ 9223372036854775807)
    (hK : ∀ w', RowB w' w.heap.size e n (fun _ => z) → Below w.heap.size w w' → w'.heap.size = w.heap.size + 1 → wpList P ops Q rest (a.put o.dst (.slice (some ⟨w.heap.size, 0, none⟩) 0 n)) w') :
    wpList P ops Q (o :: rest) a w := by
  refine wpList_plain hg fun K hK' => ?_
  obtain ⟨i, hi, hz, hs, hb⟩ := info_parts hinfo
  have hbb : ((i.bytes * n : Nat) : Int) ≤ 281474976710656 := by rw [hb]; omega
  rw [Int.natCast_mul] at hbb
  have hrun := run_make (P := P) w t e i z ht hi hz .i64 .i64 0 (n : Int) (Int.le_refl _) (by omega) hbb (by omega)
  subst hC
  simp only [Int.toNat_natCast, Int.toNat_zero, hs, Nat.mul_one, hz1] at hrun
  unfold Oper.wp
  simp [execOp, hop, hl, hc, hrun, Result.andThen]
  exact hK' _ _ (hK _ (RowB.made w e z n) ((Below.refl _ _).alloc (Nat.le_refl _) _) (by simp))

theorem hide {p : Prop} (h : p) : Hid p := h

theorem below_alike {D : Nat} {w wa wb : World} (h : Below D w wa) (hh : wb.heap = wa.heap) (h1 : wb.os = wa.os) (h2 : wb.tape = wa.tape) (h3 : wb.output = wa.output) : Below D w wb :=
  ⟨h1.trans h.os, h2.trans h.tape, h3.trans h.output, by rw [hh]; exact h.size, fun k hk => by rw [hh]; exact h.block k hk⟩

/-- which region a statement begins with -/
def headRegion : Code → Nat
  | .region k _ _ => k
  | .seq a _ => headRegion a
  | .block _ c => headRegion c
  | .loop c => headRegion c
  | _ => 0
/-- what stands from region n on -/
def suffixAt (n : Nat) : Code → Code
  | .seq a b => if headRegion a = n then .seq a b else suffixAt n b
  | c => c

end Go.Proofs.Qxb6601398a.Mem
