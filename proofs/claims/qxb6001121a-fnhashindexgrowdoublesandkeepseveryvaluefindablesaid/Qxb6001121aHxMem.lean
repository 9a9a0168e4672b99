/-
  MEMORY of the hash index: a row of slots (three cells each), the index's own four cells.
-/
import Derived.Test.Qxb6001121aEdBase
import Derived.Deep.RegionLaw
namespace Go.Proofs.Qxb6001121a.HxMem
open Go.RowKit Go.Proofs.Qxb6001121a.Mem Go.Proofs.Qxb6001121a.EdBase

/-- BLOCK b IS A ROW OF N SLOTS: (generation, value, hash), none frozen -/
def SlotsB (w : World) (b N : Nat) (T : Nat → Int × Int × Int) : Prop :=
  ∃ cur : Array Value, w.heap[b]? = some (.cells cur 47 (0, 0)) ∧ cur.size = N * 3 ∧ ∀ i, i < N → cur[i * 3]? = some (.int .u32 (T i).1) ∧ cur[i * 3 + 1]? = some (.int .i64 (T i).2.1) ∧ cur[i * 3 + 2]? = some (.int .u64 (T i).2.2)

def updT (T : Nat → Int × Int × Int) (i : Nat) (x : Int × Int × Int) : Nat → Int × Int × Int := fun j => if j = i then x else T j

section
variable {w w' : World} {b N : Nat} {T : Nat → Int × Int × Int}

theorem SlotsB.lt (h : SlotsB w b N T) : b < w.heap.size := by
  obtain ⟨cur, hb, _⟩ := h
  exact (Array.getElem?_eq_some_iff.1 hb).1
theorem SlotsB.cell0 (h : SlotsB w b N T) {i : Nat} (hi : i < N) : w.cell? ⟨b, i * 3, none⟩ = some (.int .u32 (T i).1) := by
  obtain ⟨cur, hb, hs, hc⟩ := h
  simp only [World.cell?, hb]
  exact (hc i hi).1
theorem SlotsB.cell1 (h : SlotsB w b N T) {i : Nat} (hi : i < N) : w.cell? ⟨b, i * 3 + 1, none⟩ = some (.int .i64 (T i).2.1) := by
  obtain ⟨cur, hb, hs, hc⟩ := h
  simp only [World.cell?, hb]
  exact (hc i hi).2.1
theorem SlotsB.cell2 (h : SlotsB w b N T) {i : Nat} (hi : i < N) : w.cell? ⟨b, i * 3 + 2, none⟩ = some (.int .u64 (T i).2.2) := by
  obtain ⟨cur, hb, hs, hc⟩ := h
  simp only [World.cell?, hb]
  exact (hc i hi).2.2
theorem SlotsB.free (h : SlotsB w b N T) (o : Nat) : w.frozen? ⟨b, o, none⟩ = false := by
  obtain ⟨cur, hb, _⟩ := h
  simp [World.frozen?, hb]
theorem SlotsB.of_block (h : SlotsB w b N T) (hb : w'.heap[b]? = w.heap[b]?) : SlotsB w' b N T := by
  obtain ⟨cur, h1, h2⟩ := h
  exact ⟨cur, hb.trans h1, h2⟩
theorem SlotsB.congr {T' : Nat → Int × Int × Int} (h : SlotsB w b N T) (hT : ∀ i, i < N → T i = T' i) : SlotsB w b N T' := by
  obtain ⟨cur, h1, h2, h3⟩ := h
  exact ⟨cur, h1, h2, fun i hi => by rw [← hT i hi]; exact h3 i hi⟩
theorem SlotsB.other (h : SlotsB w b N T) {a : Addr} (hne : b ≠ a.block) (v : Value) : SlotsB (w.setCell a v) b N T := h.of_block (Below.heap_setCell w a v b hne)

theorem SlotsB.set (h : SlotsB w b N T) (i : Nat) (g v x : Int) :
    SlotsB (((w.setCell ⟨b, i * 3, none⟩ (.int .u32 g)).setCell ⟨b, i * 3 + 1, none⟩ (.int .i64 v)).setCell ⟨b, i * 3 + 2, none⟩ (.int .u64 x)) b N (updT T i (g, v, x)) := by
  obtain ⟨cur, hb, hs, hc⟩ := h
  refine ⟨((cur.setIfInBounds (i * 3) (.int .u32 g)).setIfInBounds (i * 3 + 1) (.int .i64 v)).setIfInBounds (i * 3 + 2) (.int .u64 x), ?_, by simp [hs], fun j hj => ?_⟩
  · simp only [World.setCell, Array.getElem?_modify, hb]
    simp
  · have := hc j hj
    by_cases e : j = i
    · subst e
      have h0 : j * 3 < cur.size := by omega
      have h1 : j * 3 + 1 < cur.size := by omega
      have h2 : j * 3 + 2 < cur.size := by omega
      refine ⟨?_, ?_, ?_⟩
      · rw [Array.getElem?_setIfInBounds_ne (by omega), Array.getElem?_setIfInBounds_ne (by omega)]; simp [h0, updT]
      · rw [Array.getElem?_setIfInBounds_ne (by omega)]; simp [h1, updT]
      · simp [h2, updT]
    · refine ⟨?_, ?_, ?_⟩
      · rw [Array.getElem?_setIfInBounds_ne (by omega), Array.getElem?_setIfInBounds_ne (by omega), Array.getElem?_setIfInBounds_ne (by omega)]; simp only [updT, if_neg e]; exact this.1
      · rw [Array.getElem?_setIfInBounds_ne (by omega), Array.getElem?_setIfInBounds_ne (by omega), Array.getElem?_setIfInBounds_ne (by omega)]; simp only [updT, if_neg e]; exact this.2.1
      · rw [Array.getElem?_setIfInBounds_ne (by omega), Array.getElem?_setIfInBounds_ne (by omega), Array.getElem?_setIfInBounds_ne (by omega)]; simp only [updT, if_neg e]; exact this.2.2
end

theorem info47 : (Try.prog.info? 47).map (fun i => (i.zero, i.size, i.bytes)) = some (some (.agg #[.int .u32 0, .int .i64 0, .int .u64 0]), 3, 24) := by kernel_rfl

theorem made_slots (w : World) (n : Nat) : SlotsB (w.alloc (.cells (madeCells #[.int .u32 0, .int .i64 0, .int .u64 0] (n * 3)) 47)) w.heap.size n (fun _ => (0, 0, 0)) := by
  refine ⟨_, heap_alloc_new w _, size_madeCells _ _, fun i hi => ?_⟩
  have h0 : i * 3 < n * 3 := by omega
  have h1 : i * 3 + 1 < n * 3 := by omega
  have h2 : i * 3 + 2 < n * 3 := by omega
  have m1 : (i * 3 + 1) % 3 = 1 := by omega
  have m2 : (i * 3 + 2) % 3 = 2 := by omega
  simp [madeCells, h0, h1, h2, m1, m2]

/-- 'make([]indexSlot, n)' -/
theorem wp_mkSlots (w : World) {ops : Array Oper} {rest : List Oper} {o : Oper} {a : Act} {Q : Exit → Act → World → Prop}
    (hg : o.guard = none) (l c : Operand) (hop : o.op = Op.makeSlice 45 l c) (L C : Int) (n : Nat) (hl : a.eval l = .int .i64 L) (hc : a.eval c = .int .i64 C) (hL : L = (n : Int)) (hC : C = (n : Int)) (b2 : n ≤ 1048576)
    (hK : ∀ w', SlotsB w' w.heap.size n (fun _ => (0, 0, 0)) → Below w.heap.size w w' → w'.heap.size = w.heap.size + 1 → wpList Try.prog ops Q rest (a.put o.dst (.slice (some ⟨w.heap.size, 0, none⟩) n n)) w') :
    wpList Try.prog ops Q (o :: rest) a w := by
  refine wpList_plain hg fun K hK' => ?_
  obtain ⟨i, hi, hz, hs, hb⟩ := info_parts info47
  have hrun := run_make (P := Try.prog) w 45 47 i _ Try.underlying45 hi hz .i64 .i64 (n : Int) (n : Int) (by omega) (Int.le_refl _) (by rw [hb]; omega) (by omega)
  subst hL
  subst hC
  simp only [Int.toNat_natCast, hs] at hrun
  unfold Oper.wp
  simp [execOp, hop, hl, hc, hrun, Result.andThen]
  exact hK' _ _ (hK _ (made_slots w n) ((Below.refl _ _).alloc (Nat.le_refl _) _) (by simp))

theorem cleared_slots {w : World} {S cap : Nat} {T : Nat → Int × Int × Int} (h : SlotsB w S cap T) (hc : 1 ≤ cap) (ty : TypeId) (c : Nat) :
    ∃ w', (Builtin.clear_ #[45] ty #[.slice (some ⟨S, 0, none⟩) cap c]).run Try.prog w = .ok (.tuple #[]) w' ∧ SlotsB w' S cap (fun _ => (0, 0, 0)) ∧ w.grownBy w' (some S) ∧ w'.heap.size = w.heap.size := by
  obtain ⟨cur, hb, hs, hcell⟩ := h
  have hzl : (Builtin.zeroCells #[.int .u32 0, .int .i64 0, .int .u64 0] cap).toList.length = cap * 3 := by simp [Builtin.zeroCells]
  have hst := run_storeCells_at (P := Try.prog) S 0 47 (Builtin.zeroCells #[.int .u32 0, .int .i64 0, .int .u64 0] cap).toList 0 cur w hb (by rw [hzl, hs]; omega) (by
    intro v hv
    simp only [Builtin.zeroCells, Array.toList_map, List.mem_map] at hv
    obtain ⟨i, _, rfl⟩ := hv
    have h3 : i % 3 = 0 ∨ i % 3 = 1 ∨ i % 3 = 2 := by omega
    rcases h3 with e | e | e <;> (show (#[Value.int .u32 0, Value.int .i64 0, Value.int .u64 0][i % 3]!).oneCell' = true) <;> rw [e] <;> rfl)
  rw [hzl] at hst
  have hd : cur.toList.drop (0 + 0 + cap * 3) = [] := List.drop_eq_nil_of_le (by simp [hs])
  rw [hd] at hst
  simp only [Nat.add_zero, List.take_zero, List.nil_append, List.append_nil, Array.toArray_toList] at hst
  refine ⟨_, ?_, ⟨Builtin.zeroCells #[.int .u32 0, .int .i64 0, .int .u64 0] cap, setRow_heap w S cur _ 47 (0, 0) hb, by simpa using hzl, fun i hi => ?_⟩, ?_, ?_⟩
  · obtain ⟨m, rfl⟩ : ∃ m, cap = m + 1 := ⟨cap - 1, by omega⟩
    simp only [Builtin.clear_]
    simp [run_underlying Try.underlying45, Value.cells, hst]
  · have h0 : i * 3 < cap * 3 := by omega
    have h1 : i * 3 + 1 < cap * 3 := by omega
    have h2 : i * 3 + 2 < cap * 3 := by omega
    have m1 : (i * 3 + 1) % 3 = 1 := by omega
    have m2 : (i * 3 + 2) % 3 = 2 := by omega
    simp [Builtin.zeroCells, h0, h1, h2, m1, m2]
  · refine ⟨rfl, rfl, rfl, by simp [World.setRow], fun k _ hk => ?_⟩
    simp only [World.setRow, Array.getElem?_modify]
    rw [if_neg (fun e => hk (by rw [e]))]
  · simp [World.setRow]

/-- 'clear(h.slots[:cap(h.slots)])' -/
theorem wp_clear {w : World} {ops : Array Oper} {rest : List Oper} {o : Oper} {a : Act} {Q : Exit → Act → World → Prop}
    (hg : o.guard = none) (s : Operand) (hop : o.op = Op.call { callee := Callee.builtin Builtin.clear, args := #[s], argTypes := #[45] }) (S cap c : Nat) (T : Nat → Int × Int × Int) (hs : a.eval s = .slice (some ⟨S, 0, none⟩) cap c) (h : SlotsB w S cap T) (hc : 1 ≤ cap)
    (hK : ∀ w', SlotsB w' S cap (fun _ => (0, 0, 0)) → w.grownBy w' (some S) → w'.heap.size = w.heap.size → wpList Try.prog ops Q rest (a.put o.dst (.tuple #[])) w') :
    wpList Try.prog ops Q (o :: rest) a w := by
  refine wpList_plain hg fun K hK' => ?_
  obtain ⟨w', hrun, r1, r2, r3⟩ := cleared_slots h hc o.type c
  unfold Oper.wp
  simp [execOp, hop, resolve, invoke, builtin, hs, hrun, Result.andThen]
  exact hK' _ _ (hK w' r1 r2 r3)

/-- the index's own cells -/
def hdr (S N cap : Nat) (u g : Int) (mv : Value) : Nat → Value
  | 0 => .slice (some ⟨S, 0, none⟩) N cap
  | 1 => .int .i64 u
  | 2 => .int .u32 g
  | _ => mv

/-- THE INDEX at block hp -/
def Head (w : World) (hp S N cap : Nat) (g : Int) (mv : Value) : Prop := ∃ u, RowB w hp 49 4 (hdr S N cap u g mv)

section
variable {w w' : World} {hp S N cap : Nat} {g : Int} {mv : Value}
theorem Head.slots (h : Head w hp S N cap g mv) : w.cell? ⟨hp, 0, none⟩ = some (.slice (some ⟨S, 0, none⟩) N cap) := by obtain ⟨u, h⟩ := h; exact h.cell (by omega)
theorem Head.gen (h : Head w hp S N cap g mv) : w.cell? ⟨hp, 2, none⟩ = some (.int .u32 g) := by obtain ⟨u, h⟩ := h; exact h.cell (by omega)
theorem Head.moved (h : Head w hp S N cap g mv) : w.cell? ⟨hp, 3, none⟩ = some mv := by obtain ⟨u, h⟩ := h; exact h.cell (by omega)
theorem Head.free (h : Head w hp S N cap g mv) (o : Nat) : w.frozen? ⟨hp, o, none⟩ = false := by obtain ⟨u, h⟩ := h; exact h.free o
theorem Head.lt (h : Head w hp S N cap g mv) : hp < w.heap.size := by obtain ⟨u, h⟩ := h; exact h.lt
theorem Head.of_block (h : Head w hp S N cap g mv) (hb : w'.heap[hp]? = w.heap[hp]?) : Head w' hp S N cap g mv := by obtain ⟨u, h⟩ := h; exact ⟨u, h.of_block hb⟩
theorem Head.setGen (h : Head w hp S N cap g mv) (g' : Int) : Head (w.setCell ⟨hp, 2, none⟩ (.int .u32 g')) hp S N cap g' mv := by
  obtain ⟨u, h⟩ := h
  exact ⟨u, (h.set 2 _).congr fun j hj => by match j, hj with | 0, _ => rfl | 1, _ => rfl | 2, _ => rfl | 3, _ => rfl⟩
theorem Head.setMoved (h : Head w hp S N cap g mv) (mv' : Value) : Head (w.setCell ⟨hp, 3, none⟩ mv') hp S N cap g mv' := by
  obtain ⟨u, h⟩ := h
  exact ⟨u, (h.set 3 _).congr fun j hj => by match j, hj with | 0, _ => rfl | 1, _ => rfl | 2, _ => rfl | 3, _ => rfl⟩
theorem Head.setSlots (h : Head w hp S N cap g mv) (S' N' cap' : Nat) : Head (w.setCell ⟨hp, 0, none⟩ (.slice (some ⟨S', 0, none⟩) N' cap')) hp S' N' cap' g mv := by
  obtain ⟨u, h⟩ := h
  exact ⟨u, (h.set 0 _).congr fun j hj => by match j, hj with | 0, _ => rfl | 1, _ => rfl | 2, _ => rfl | 3, _ => rfl⟩
end

/-- w' IS w BUT FOR BLOCKS p, q AND NEW ONES -/
structure Mut (w w' : World) (p q : Nat) : Prop where
  os : w'.os = w.os
  tape : w'.tape = w.tape
  output : w'.output = w.output
  size : w.heap.size ≤ w'.heap.size
  block : ∀ k, k < w.heap.size → k ≠ p → k ≠ q → w'.heap[k]? = w.heap[k]?

theorem Mut.refl (w : World) (p q : Nat) : Mut w w p q := ⟨rfl, rfl, rfl, Nat.le_refl _, fun _ _ _ _ => rfl⟩
theorem Mut.trans {a b c : World} {p q : Nat} (h : Mut a b p q) (k : Mut b c p q) : Mut a c p q :=
  ⟨k.os.trans h.os, k.tape.trans h.tape, k.output.trans h.output, Nat.le_trans h.size k.size, fun i hi h1 h2 => (k.block i (Nat.lt_of_lt_of_le hi h.size) h1 h2).trans (h.block i hi h1 h2)⟩
theorem Mut.setCell {a w : World} {p q : Nat} (h : Mut a w p q) {x : Addr} (hx : x.block = p ∨ x.block = q ∨ a.heap.size ≤ x.block) (v : Value) : Mut a (w.setCell x v) p q :=
  ⟨h.os, h.tape, h.output, by simpa [World.setCell] using h.size, fun k hk h1 h2 => (Below.heap_setCell w x v k (by omega)).trans (h.block k hk h1 h2)⟩
theorem Mut.below {a w w' : World} {p q B : Nat} (h : Mut a w p q) (hb : Below B w w') (hB : a.heap.size ≤ B) : Mut a w' p q :=
  ⟨hb.os.trans h.os, hb.tape.trans h.tape, hb.output.trans h.output, Nat.le_trans h.size hb.size, fun k hk h1 h2 => (hb.block k (by omega)).trans (h.block k hk h1 h2)⟩
theorem Mut.grown {a w w' : World} {p q : Nat} {r : Option Nat} (h : Mut a w p q) (hg : w.grownBy w' r) (hr : ∀ k, r = some k → k = p ∨ k = q ∨ a.heap.size ≤ k) : Mut a w' p q :=
  ⟨hg.os.trans h.os, hg.tape.trans h.tape, hg.output.trans h.output, Nat.le_trans h.size hg.size, fun k hk h1 h2 =>
    (hg.block k (Nat.lt_of_lt_of_le hk h.size) (fun e => by have := hr k e.symm; omega)).trans (h.block k hk h1 h2)⟩
theorem Mut.alike {a w w' : World} {p q : Nat} (h : Mut a w p q) (hh : w'.heap = w.heap) (h1 : w'.os = w.os) (h2 : w'.tape = w.tape) (h3 : w'.output = w.output) : Mut a w' p q :=
  ⟨h1.trans h.os, h2.trans h.tape, h3.trans h.output, by rw [hh]; exact h.size, fun k hk e1 e2 => by rw [hh]; exact h.block k hk e1 e2⟩
theorem Mut.toBelow {a w : World} {p q B : Nat} (h : Mut a w p q) (hB : B ≤ a.heap.size) (hp : B ≤ p) (hq : B ≤ q) : Below B a w :=
  ⟨h.os, h.tape, h.output, h.size, fun k hk => h.block k (by omega) (by omega) (by omega)⟩

end Go.Proofs.Qxb6001121a.HxMem
