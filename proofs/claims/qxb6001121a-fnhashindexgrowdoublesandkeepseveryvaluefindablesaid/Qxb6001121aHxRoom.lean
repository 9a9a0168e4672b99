/-
  THE WALK of grow where the room suffices: the slots in use are set aside in 'moved'.
-/
import Derived.Test.Qxb6001121aHxGrow
import Derived.Lib.SmallJoins
namespace Go.Proofs.Qxb6001121a.HxRoom
open Go.RowKit Go.Proofs.Qxb6001121a.Mem Go.Proofs.Qxb6001121a.EdBase Go.Proofs.Qxb6001121a.HxMem Go.Proofs.Qxb6001121a.HxBits Go.Proofs.Qxb6001121a.HxPlain Go.Proofs.Qxb6001121a.HxWalkA Go.Proofs.Qxb6001121a.HxGrow

def cells3 (s : Int × Int × Int) : List Value := [.int .u32 s.1, .int .i64 s.2.1, .int .u64 s.2.2]
def flat (L : List (Int × Int × Int)) : List Value := L.flatMap cells3
theorem flat_snoc (L : List (Int × Int × Int)) (s : Int × Int × Int) : flat (L ++ [s]) = flat L ++ cells3 s := by simp [flat, List.flatMap_append]
theorem flat_length (L : List (Int × Int × Int)) : (flat L).length = L.length * 3 := by
  induction L with
  | nil => rfl
  | cons s L ih => simp only [flat, List.flatMap_cons, List.length_append, List.length_cons] at *; rw [ih]; simp [cells3]; omega

/-- WHAT IS SET ASIDE: the value mv owns the slots L -/
def Aside (w : World) (base : Nat) (mv : Value) (L : List (Int × Int × Int)) : Prop := w.ownsRow base 47 3 mv L.length (flat L)

/-- 'append(h.moved, s)' as one step of a region that draws -/
theorem step_moved {ops : Array Oper} {o : Oper} {a : Act} {w : World} {K : Act → World → Prop} {Q : Exit → Act → World → Prop} {E : Prop}
    (hg : o.guard = none) (s x : Operand) (hop : o.op = Op.call { callee := Callee.builtin Builtin.append, args := #[s, x], argTypes := #[45, 45] }) (base : Nat) (mv : Value) (L : List (Int × Int × Int)) (hs : a.eval s = mv) (hown : Aside w base mv L)
    (ad c : Nat) (sl : Int × Int × Int) (hx : a.eval x = .slice (some ⟨ad, 0, none⟩) 1 c) (h0 : w.cell? ⟨ad, 0, none⟩ = some (.int .u32 sl.1)) (h1 : w.cell? ⟨ad, 1, none⟩ = some (.int .i64 sl.2.1)) (h2 : w.cell? ⟨ad, 2, none⟩ = some (.int .u64 sl.2.2)) (hlen : L.length ≤ 4096) (hbase : base ≤ w.heap.size)
    (hK : ∀ gb cap' w', Aside w' base (.slice (some ⟨gb, 0, none⟩) (L.length + 1) cap') (L ++ [sl]) → w.grownBy w' mv.ownBlock → K (a.put o.dst (.slice (some ⟨gb, 0, none⟩) (L.length + 1) cap')) w') :
    if Region.wanted o (yielded ops a.tmps) = true then Oper.wp Try.prog o a w K Q else E := by
  have hw : Region.wanted o (yielded ops a.tmps) = true := by simp [Region.wanted, hg]
  rw [if_pos hw]
  obtain ⟨i, hi, hz, hs3, hb⟩ := info_parts info47
  obtain ⟨v', w', hrun, r1, r2, _⟩ := run_append_own (P := Try.prog) w base 45 o.type 47 i _ 3 24 Try.underlying45 hi hz hs3 hb rfl (by decide) mv L.length (flat L) hown ⟨ad, 0, none⟩ 1 c (cells3 sl) rfl
    (fun j u hj => by
      match j, hj with
      | 0, hj => simp [cells3] at hj; subst hj; simpa [Addr.add] using h0
      | 1, hj => simp [cells3] at hj; subst hj; simpa [Addr.add] using h1
      | 2, hj => simp [cells3] at hj; subst hj; simpa [Addr.add] using h2
      | j + 3, hj => simp [cells3] at hj)
    (fun u hu => by
      simp only [cells3, List.mem_cons, List.not_mem_nil, or_false] at hu
      rcases hu with rfl | rfl | rfl <;> rfl)
    (by unfold maxLen; omega) (by omega) hbase
  obtain ⟨gb, cap', rfl⟩ := Joins.ownsRow_form r1 (by omega)
  unfold Oper.wp
  simp [execOp, hop, resolve, invoke, builtin, hs, hx, hrun, Result.andThen]
  refine hK gb cap' w' ?_ r2
  unfold Aside
  rw [flat_snoc, List.length_append]
  exact r1

/-- the state while slots are set aside -/
def Setting (w wr : World) (hp S n cap : Nat) (g : Int) (T : Nat → Int × Int × Int) (k : Nat) (mv : Value) (L : List (Int × Int × Int)) : Prop :=
  Head wr hp S n cap g mv ∧ SlotsB wr S cap T ∧ Aside wr w.heap.size mv L ∧ Mut w wr S hp ∧ (∀ s ∈ L, s.1 = g) ∧ L.map (fun s => (s.2.2, s.2.1)) = items g T k

theorem setting_alloc {w wr : World} {hp S n cap k : Nat} {g : Int} {T : Nat → Int × Int × Int} {mv : Value} {L : List (Int × Int × Int)} (h : Setting w wr hp S n cap g T k mv L) (o : Obj) (q : Nat) : Setting w ((wr.alloc o).drewN q) hp S n cap g T k mv L := by
  obtain ⟨h1, h2, h3, h4, h5⟩ := h
  exact ⟨h1.of_block (Below.heap_alloc _ _ _ h1.lt), h2.of_block (Below.heap_alloc _ _ _ h2.lt), World.ownsRow.alloc h3 o, (h4.below ((Below.refl _ _).alloc (Nat.le_refl _) _) h4.size).alike rfl rfl rfl rfl, h5⟩

theorem aside_any {W W' : World} {base : Nat} {mv : Value} {L : List (Int × Int × Int)} (h : Aside W base mv L) (o : Obj) (hh : W'.heap = (W.alloc o).heap) : Aside W' base mv L := by
  obtain ⟨h1, h2⟩ := World.ownsRow.alloc h o
  refine ⟨h1, ?_⟩
  rcases h2 with h2 | ⟨g, cap, cur, q1, q2, q3, q4⟩
  · exact Or.inl h2
  · exact Or.inr ⟨g, cap, cur, q1, q2, by rw [hh]; exact q3, q4⟩

/-- behind the append: all but what is set aside is as it was -/
theorem setting_append {w W Wx w' : World} {hp S n cap k : Nat} {g : Int} {T : Nat → Int × Int × Int} {mv : Value} {L : List (Int × Int × Int)} (h : Setting w W hp S n cap g T k mv L) (hp1 : hp < w.heap.size) (hS1 : S < w.heap.size) (o : Obj)
    (hgr : Wx.grownBy w' mv.ownBlock) (hh : Wx.heap = (W.alloc o).heap) (e1 : Wx.os = W.os) (e2 : Wx.tape = W.tape) (e3 : Wx.output = W.output) : Head w' hp S n cap g mv ∧ SlotsB w' S cap T ∧ Mut w w' S hp := by
  obtain ⟨h1, h2, h3, h4, h5, h6⟩ := h
  have own : ∀ j, mv.ownBlock = some j → w.heap.size ≤ j := fun j hj => (World.ownsRow.lt h3 j hj).1
  have m1 : Mut w Wx S hp := (h4.below ((Below.refl _ _).alloc (Nat.le_refl _) o) h4.size).alike hh e1 e2 e3
  have bl : ∀ j, j < w.heap.size → w'.heap[j]? = W.heap[j]? := fun j hj => by
    have hj' : j < W.heap.size := Nat.lt_of_lt_of_le hj h4.size
    rw [hgr.block j (by rw [hh]; show j < (W.heap.push o).size; simp; omega) (fun e => by have := own j e.symm; omega), hh]
    exact Below.heap_alloc _ _ _ hj'
  exact ⟨h1.of_block (bl hp hp1), h2.of_block (bl S hS1), m1.grown hgr (fun j hj => Or.inr (Or.inr (own j hj)))⟩

theorem setting_step {w w' : World} {hp S n cap k : Nat} {g : Int} {T : Nat → Int × Int × Int} {mv mv' : Value} {L : List (Int × Int × Int)} (h : Head w' hp S n cap g mv ∧ SlotsB w' S cap T ∧ Mut w w' S hp) (hne : hp ≠ S) (hp1 : hp < w.heap.size)
    (ha : Aside w' w.heap.size mv' (L ++ [T k])) (hall : ∀ s ∈ L, s.1 = g) (hL : L.map (fun s => (s.2.2, s.2.1)) = items g T k) (he : (T k).1 = g) : Setting w (w'.setCell ⟨hp, 3, none⟩ mv') hp S n cap g T (k + 1) mv' (L ++ [T k]) := by
  obtain ⟨h1, h2, h3⟩ := h
  refine ⟨h1.setMoved _, h2.other (a := ⟨hp, 3, none⟩) (fun e => hne e.symm) _, ?_, h3.setCell (x := ⟨hp, 3, none⟩) (by simp) _, fun s hs => ?_, ?_⟩
  · exact ownsRow_setCell_below ha (a := ⟨hp, 3, none⟩) hp1 _
  · rcases List.mem_append.1 hs with h | h
    · exact hall s h
    · rw [List.mem_singleton.1 h]; exact he
  · rw [List.map_append, hL, items_hit he]; rfl

/-- m slots that are read at block b -/
def Row3 (w : World) (b m : Nat) (T : Nat → Int × Int × Int) : Prop :=
  b < w.heap.size ∧ ∀ i, i < m → w.cell? ⟨b, i * 3, none⟩ = some (.int .u32 (T i).1) ∧ w.cell? ⟨b, i * 3 + 1, none⟩ = some (.int .i64 (T i).2.1) ∧ w.cell? ⟨b, i * 3 + 2, none⟩ = some (.int .u64 (T i).2.2)
theorem Row3.of_block {w w' : World} {b m : Nat} {T : Nat → Int × Int × Int} (h : Row3 w b m T) (hb : w'.heap[b]? = w.heap[b]?) (hs : w.heap.size ≤ w'.heap.size) : Row3 w' b m T :=
  ⟨Nat.lt_of_lt_of_le h.1 hs, fun i hi => by
    have := h.2 i hi
    exact ⟨(World.cell?_of_block (w := w) (w' := w') hb).trans this.1, (World.cell?_of_block (w := w) (w' := w') hb).trans this.2.1, (World.cell?_of_block (w := w) (w' := w') hb).trans this.2.2⟩⟩

theorem flat_at (L : List (Int × Int × Int)) : ∀ j, j < L.length → (flat L)[j * 3]? = some (.int .u32 (L.getD j (0, 0, 0)).1) ∧ (flat L)[j * 3 + 1]? = some (.int .i64 (L.getD j (0, 0, 0)).2.1) ∧ (flat L)[j * 3 + 2]? = some (.int .u64 (L.getD j (0, 0, 0)).2.2) := by
  induction L with
  | nil => intro j hj; simp at hj
  | cons s L ih =>
    intro j hj
    have e : flat (s :: L) = cells3 s ++ flat L := rfl
    rw [e]
    match j with
    | 0 => exact ⟨rfl, rfl, rfl⟩
    | j + 1 =>
      have h := ih j (by simpa using hj)
      have hl : (cells3 s).length = 3 := rfl
      refine ⟨?_, ?_, ?_⟩
      · rw [List.getElem?_append_right (by rw [hl]; omega), hl, show (j + 1) * 3 - 3 = j * 3 from by omega]; exact h.1
      · rw [List.getElem?_append_right (by rw [hl]; omega), hl, show (j + 1) * 3 + 1 - 3 = j * 3 + 1 from by omega]; exact h.2.1
      · rw [List.getElem?_append_right (by rw [hl]; omega), hl, show (j + 1) * 3 + 2 - 3 = j * 3 + 2 from by omega]; exact h.2.2

/-- what is set aside, read again -/
theorem aside_reads {w : World} {base : Nat} {mv : Value} {L : List (Int × Int × Int)} (h : Aside w base mv L) : ∃ mo mc, mv = .slice mo L.length mc ∧ (0 < L.length → ∃ gb, mo = some ⟨gb, 0, none⟩ ∧ base ≤ gb ∧ Row3 w gb L.length (fun j => L.getD j (0, 0, 0))) := by
  obtain ⟨h1, h2⟩ := h
  rcases h2 with ⟨h2, h3⟩ | ⟨gb, cap, cur, h2, h3, h4, h5, h6, h7, h8⟩
  · exact ⟨none, 0, by rw [h2, h3], fun h => by omega⟩
  · refine ⟨_, cap, h2, fun _ => ⟨gb, rfl, h3, (Array.getElem?_eq_some_iff.1 h4).1, fun i hi => ?_⟩⟩
    have hf := flat_at L i hi
    rw [← h8] at hf
    have hcell : ∀ o, o < L.length * 3 → w.cell? ⟨gb, o, none⟩ = (cur.toList.take (L.length * 3))[o]? := fun o ho => by
      simp only [World.cell?, h4]
      rw [List.getElem?_take, if_pos ho]
      simp
    exact ⟨(hcell _ (by omega)).trans hf.1, (hcell _ (by omega)).trans hf.2.1, (hcell _ (by omega)).trans hf.2.2⟩

theorem items_list {g : Int} {L : List (Int × Int × Int)} (h : ∀ s ∈ L, s.1 = g) : ∀ k, k ≤ L.length → items g (fun j => L.getD j (0, 0, 0)) k = (L.take k).map (fun s => (s.2.2, s.2.1)) := by
  intro k
  induction k with
  | zero => intro _; simp [items]
  | succ k ih =>
    intro hk
    have hlt : k < L.length := by omega
    have e : L.getD k (0, 0, 0) = L[k] := by rw [List.getD_eq_getElem?_getD, List.getElem?_eq_getElem hlt]; rfl
    have hg : ((fun j => L.getD j (0, 0, 0)) k).1 = g := by show (L.getD k (0, 0, 0)).1 = g; rw [e]; exact h _ (List.getElem_mem _)
    rw [items_hit hg, ih (by omega), List.take_succ_eq_append_getElem hlt, List.map_append]
    show _ ++ [((L.getD k (0, 0, 0)).2.2, (L.getD k (0, 0, 0)).2.1)] = _
    rw [e]; rfl

set_option maxRecDepth 100000 in
set_option maxHeartbeats 4000000 in
theorem grow_room (hp S n cap N : Nat) (g : Int) (T : Nat → Int × Int × Int) (w : World) (hh : Head w hp S n cap g (.slice none 0 0)) (ht : SlotsB w S cap T) (hne : hp ≠ S) (hn : n ≤ 4096) (hc1 : n ≤ cap) (hc2 : cap ≤ 16384)
    (hN : Hid (N = size2 n)) (h2 : Pow2 N) (hroom : N ≤ cap) (hg0 : 0 ≤ g) (hg1 : g ≤ 4294967295) (hhash : ∀ i, i < n → 0 ≤ (T i).2.2 ∧ (T i).2.2 < 18446744073709551616) (hgens : ∀ i, i < cap → (T i).1 ≤ g) :
    Calls Try.prog 28 #[.pointer (some ⟨hp, 0, none⟩)] w fun e w' => e = .returned (.tuple #[]) ∧ ∃ S' mv, Placing w' hp S' N cap (nextG g) mv (items g T n) ∧ Mut w w' S hp := by
  have h0 := hh.slots
  have hg := hh.gen
  have f3 := hh.free 3
  have h3 := hh.moved
  have hN2 : N ≤ 8192 := by have := hN.out; unfold size2 at this; omega
  have hN3 : 2 * n ≤ N := by have := hN.out; unfold size2 at this; omega
  have hN4 : 128 ≤ N := by have := hN.out; unfold size2 at this; omega
  have hmax : (if (2 * (n : Int)) < 128 then (128 : Int) else 2 * (n : Int)) = (N : Int) := by have := hN.out; unfold size2 at this; split <;> omega
  have hSlt := ht.lt
  have hHlt := hh.lt
  have ST : Hid (Setting w (w.setCell ⟨hp, 3, none⟩ (.slice none 0 0)) hp S n cap g T 0 (.slice none 0 0) []) :=
    ⟨hh.setMoved _, ht.other (a := ⟨hp, 3, none⟩) (fun e => hne e.symm) _, World.ownsRow_nil _ _ _ _, (Mut.refl w S hp).setCell (x := ⟨hp, 3, none⟩) (by simp) _, fun s hs => by simp at hs, rfl⟩
  have HX := hide hhash
  have HG := hide hgens
  clear hh ht hhash hgens
  go_enter Try.func28, Try.ntmps28
  go_wp2_with fail
  go_loopw [31] (fun i wr => ∃ (k : Nat) (mv : Value) (L : List (Int × Int × Int)), k ≤ n ∧ i = .int .i64 k ∧ Setting w wr hp S n cap g T k mv L) (fun i _ => n - (intOf i).toNat)
  case atStart => exact ⟨0, _, [], Nat.zero_le _, rfl, ST.out⟩
  case round =>
    clear ST h0 hg f3 h3
    obtain ⟨k, mv, L, hk, rfl, hset⟩ := hrel
    by_cases hkn : k < n
    · have c0 := hset.2.1.cell0 (i := k) (by omega)
      have c1 := hset.2.1.cell1 (i := k) (by omega)
      have c2 := hset.2.1.cell2 (i := k) (by omega)
      have hgc := hset.1.gen
      have hlt1 := hset.1.lt
      have HS := hide hset
      clear hset
      by_cases he : (T k).1 = g
      · have EQ := hide (items_hit he)
        rw [he] at c0
        have HE := hide he
        clear he
        obtain ⟨v, hv⟩ : ∃ v, (T k).2.1 = v := ⟨_, rfl⟩
        obtain ⟨x, hx⟩ : ∃ x, (T k).2.2 = x := ⟨_, rfl⟩
        have HV := hide hv
        have HXX := hide hx
        rw [hv] at c1
        rw [hx] at c2
        clear hv hx
        go_wp2
        go_quiet (fail)
        go_wp2
        obtain ⟨W, hW⟩ : ∃ W, W = (wr.alloc (.cells #[.int .u32 g, .int .i64 v, .int .u64 x] 47)).drewN nq := ⟨_, rfl⟩
        rw [← hW]
        have hsW : Setting w W hp S n cap g T k mv L := by rw [hW]; exact setting_alloc HS.out _ _
        have d0 : W.cell? ⟨wr.heap.size, 0, none⟩ = some (.int .u32 g) := by rw [hW]; simp
        have d1 : W.cell? ⟨wr.heap.size, 1, none⟩ = some (.int .i64 v) := by rw [hW]; simp
        have d2 : W.cell? ⟨wr.heap.size, 2, none⟩ = some (.int .u64 x) := by rw [hW]; simp
        have hm3 := hsW.1.moved
        have hf3 := hsW.1.free 3
        have hHW := hsW.1.lt
        have hne3 : ¬ hp = W.heap.size := by omega
        have hLl : L.length ≤ k := by have := congrArg List.length hsW.2.2.2.2.2; rw [List.length_map] at this; rw [this]; exact items_le g T k
        have HSW := hide hsW
        have hbW := hsW.2.2.2.1.size
        clear hW hsW c0 c1 c2 hgc hlt1 HS
        go_region_law (
          refine step_moved rfl (.tmp 46) (.tmp 48) rfl w.heap.size mv L ?_ ?_ W.heap.size 1 (g, v, x) ?_ ?_ ?_ ?_ ?_ ?_ ?_
          · simp [Act.eval]
          · exact aside_any HSW.out.2.2.1 (.cells #[.int .u32 g, .int .i64 v, .int .u64 x] 47) rfl
          · simp [Act.eval]
          · simp
          · simp
          · simp
          · omega
          · simp; omega
          intro gb cap' w' hown' hgr
          have K3 := setting_append HSW.out hHlt hSlt (.cells #[.int .u32 g, .int .i64 v, .int .u64 x] 47) hgr rfl rfl rfl rfl
          have c3 := K3.1.moved
          have f3 := K3.1.free 3
          have OWN := hide hown'
          have KK := hide K3
          clear hown' hgr K3)
        all_goals
          go_wp2
          go_roundw
          case rel =>
            have hTk : T k = (g, v, x) := by rw [← HE.out, ← HV.out, ← HXX.out]
            have own := OWN.out
            rw [← hTk] at own
            exact ⟨k + 1, _, L ++ [T k], by omega, by go_num, setting_step KK.out hne hHlt own HSW.out.2.2.2.2.1 HSW.out.2.2.2.2.2 HE.out⟩
          case measure => simp [intOf]; omega
      · have EQ := hide (items_miss he)
        have he' : ((T k).1 == g) = false := by simpa using he
        clear he
        obtain ⟨y, hy⟩ : ∃ y, (T k).1 = y := ⟨_, rfl⟩
        rw [hy] at c0 he'
        clear hy
        go_wp2
        go_quiet (fail)
        go_wp2
        go_roundw
        case rel =>
          refine ⟨k + 1, mv, L, by omega, by go_num, ?_⟩
          have := setting_alloc HS.out (.cells #[.int .u32 y, .int .i64 (T k).2.1, .int .u64 (T k).2.2] 47) nq
          exact ⟨this.1, this.2.1, this.2.2.1, this.2.2.2.1, this.2.2.2.2.1, by rw [EQ.out]; exact this.2.2.2.2.2⟩
        case measure => simp [intOf]; omega
    · obtain rfl : k = n := by omega
      obtain ⟨mo, mc, rfl, hmo⟩ := aside_reads hset.2.2.1
      have h0 := hset.1.slots
      have hg := hset.1.gen
      have h3 := hset.1.moved
      have f0 := hset.1.free 0
      have hLm : Hid (items g (fun j => L.getD j (0, 0, 0)) L.length = items g T k) := by
        rw [items_list hset.2.2.2.2.1 _ (Nat.le_refl _), List.take_length]; exact hset.2.2.2.2.2
      have hLl : L.length ≤ k := by have := congrArg List.length hset.2.2.2.2.2; rw [List.length_map] at this; rw [this]; exact items_le g T k
      have HXL : Hid (∀ j, j < L.length → 0 ≤ (L.getD j (0, 0, 0)).2.2 ∧ (L.getD j (0, 0, 0)).2.2 < 18446744073709551616) := fun j hj => by
        have e : L.getD j (0, 0, 0) = L[j] := by rw [List.getD_eq_getElem?_getD, List.getElem?_eq_getElem hj]; rfl
        rw [e]
        have hm : ((L[j]).2.2, (L[j]).2.1) ∈ items g T k := by rw [← hset.2.2.2.2.2]; exact List.mem_map.2 ⟨L[j], List.getElem_mem _, rfl⟩
        obtain ⟨i, hi, e1⟩ := items_mem hm
        have e2 : (L[j]).2.2 = (T i).2.2 := congrArg Prod.fst e1
        rw [e2]
        exact HX.out i hi
      obtain ⟨m, hm⟩ : ∃ m, L.length = m := ⟨_, rfl⟩
      obtain ⟨Tm, hTm⟩ : ∃ Tm, (fun j => L.getD j (0, 0, 0)) = Tm := ⟨_, rfl⟩
      have HXM : Hid (∀ j, j < m → 0 ≤ (Tm j).2.2 ∧ (Tm j).2.2 < 18446744073709551616) := by rw [← hm, ← hTm]; exact HXL
      rw [hTm] at hmo hLm
      rw [hm] at hmo hLm hLl hset h3
      have HS := hide hset
      have HMO := hide hmo
      clear hset hmo hTm hm HXL
      go_wp2_with fail
      refine (nextGen_any hp S N cap g (.slice mo m mc) T _ (HS.out.1.setSlots S N cap) (HS.out.2.1.other (a := ⟨hp, 0, none⟩) (fun e => hne e.symm) _) hne (by omega) hroom (by omega) hg0 hg1).mono ?_
      rintro e w3 ⟨rfl, hh3, ht3, hm3, hz3⟩
      have P3 : Hid (Placing w3 hp S N cap (nextG g) (.slice mo m mc) (items g Tm 0)) := placing_start hh3 ht3 (fun i hi => by
        have := nextG_pos hg0
        unfold nextT nextG
        split
        · show (0 : Int) ≠ _; omega
        · have := HG.out i (by omega); omega)
      have M3 : Hid (Mut w w3 S hp) := (HS.out.2.2.2.1.setCell (x := ⟨hp, 0, none⟩) (by simp) _).trans hm3
      have O3 : Hid (0 < m → ∃ gb, mo = some ⟨gb, 0, none⟩ ∧ w.heap.size ≤ gb ∧ Row3 w3 gb m Tm) := fun h => by
        obtain ⟨gb, e1, e2, e3⟩ := HMO.out h
        refine ⟨gb, e1, e2, e3.of_block ?_ (by rw [hz3]; simp [World.setCell])⟩
        rw [hm3.block gb (by simp [World.setCell]; exact e3.1) (by omega) (by omega)]
        exact Below.heap_setCell _ _ _ _ (by show gb ≠ hp; omega)
      clear hh3 ht3 hm3 hz3 HS HMO h0 hg h3 f0
      go_wp2_with fail
      go_loopw [79] (fun i wr => ∃ j : Nat, j ≤ m ∧ i = .int .i64 j ∧ Placing wr hp S N cap (nextG g) (.slice mo m mc) (items g Tm j) ∧ (0 < m → ∃ gb, mo = some ⟨gb, 0, none⟩ ∧ w.heap.size ≤ gb ∧ Row3 wr gb m Tm) ∧ Mut w wr S hp) (fun i _ => m - (intOf i).toNat)
      case atStart => exact ⟨0, Nat.zero_le _, rfl, P3.out, O3.out, M3.out⟩
      case round =>
        clear P3 O3 M3
        obtain ⟨j, hj, rfl, hP, hO, hM⟩ := hrel
        by_cases hjm : j < m
        · obtain ⟨gb, e1, hgb, hrow⟩ := hO (by omega)
          subst e1
          have c0 := (hrow.2 j hjm).1
          have c1 := (hrow.2 j hjm).2.1
          have c2 := (hrow.2 j hjm).2.2
          have hsz := hM.size
          have hjm' : (j : Int) < (m : Int) := by omega
          by_cases he : (Tm j).1 = g
          · have CALL := fun o => placing_call hP hne h2 (by omega) hroom (by omega) (by have := items_le g Tm j; omega) (Tm j).2.2 (Tm j).2.1 (HXM.out j hjm) o
            have EQ := hide (items_hit he)
            rw [he] at c0
            have HP := hide CALL
            have HR := hide hrow
            have HM := hide hM
            clear he CALL hP hO hM hrow
            obtain ⟨v, hv⟩ : ∃ v, (Tm j).2.1 = v := ⟨_, rfl⟩
            obtain ⟨x, hx⟩ : ∃ x, (Tm j).2.2 = x := ⟨_, rfl⟩
            rw [hv] at c1
            rw [hx] at c2
            rw [hv, hx] at HP EQ
            clear hv hx
            go_wp2_with (go_at_call 32; refine (HP.out _).mono ?_; rintro e w4 ⟨rfl, hp4, hg4⟩)
            go_roundw
            case rel =>
              refine ⟨j + 1, by omega, by go_num, by rw [EQ.out]; exact hp4, fun _ => ⟨gb, rfl, hgb, ?_⟩, ?_⟩
              · exact (HR.out.of_block (Below.heap_alloc _ _ _ HR.out.1) (by simp)).of_block (hg4.block gb (by simp; have := HR.out.1; omega) (by simp; omega)) hg4.size
              · exact (HM.out.below ((Below.refl _ _).alloc (Nat.le_refl _) _) hsz).grown hg4 (fun i hi => by cases hi; exact Or.inl rfl)
            case measure => simp [intOf]; omega
          · have EQ := hide (items_miss he)
            have he' : ((Tm j).1 == g) = false := by simpa using he
            have HP := hide hP
            have HR := hide hrow
            have HM := hide hM
            clear he hP hO hM hrow
            obtain ⟨y, hy⟩ : ∃ y, (Tm j).1 = y := ⟨_, rfl⟩
            rw [hy] at c0 he'
            clear hy
            go_wp2
            go_roundw
            case rel =>
              exact ⟨j + 1, by omega, by go_num, by rw [EQ.out]; exact placing_alloc HP.out _, fun _ => ⟨gb, rfl, hgb, HR.out.of_block (Below.heap_alloc _ _ _ HR.out.1) (by simp)⟩, HM.out.below ((Below.refl _ _).alloc (Nat.le_refl _) _) hsz⟩
            case measure => simp [intOf]; omega
        · obtain rfl : j = m := by omega
          have HP := hide hP
          have HM := hide hM
          clear hP hM hO
          go_wp2
          go_end0
          exact ⟨rfl, _, _, by rw [← hLm.out]; exact HP.out, HM.out⟩

theorem grow_any (hp S n cap N : Nat) (g : Int) (T : Nat → Int × Int × Int) (w : World) (hh : Head w hp S n cap g (.slice none 0 0)) (ht : SlotsB w S cap T) (hne : hp ≠ S) (hn : n ≤ 4096) (hc1 : n ≤ cap) (hc2 : cap ≤ 16384)
    (hN : Hid (N = size2 n)) (h2 : Pow2 N) (hg0 : 0 ≤ g) (hg1 : g ≤ 4294967295) (hhash : ∀ i, i < n → 0 ≤ (T i).2.2 ∧ (T i).2.2 < 18446744073709551616) (hgens : ∀ i, i < cap → (T i).1 ≤ g) :
    Calls Try.prog 28 #[.pointer (some ⟨hp, 0, none⟩)] w fun e w' => e = .returned (.tuple #[]) ∧ ∃ S' mv, Placing w' hp S' N (if N ≤ cap then cap else N) (nextG g) mv (items g T n) ∧ Mut w w' S hp := by
  by_cases hr : N ≤ cap
  · rw [if_pos hr]; exact grow_room hp S n cap N g T w hh ht hne hn hc1 hc2 hN h2 hr hg0 hg1 hhash hgens
  · rw [if_neg hr]; exact grow_new hp S n cap N g T w hh ht hne hn hc1 hc2 hN h2 (by omega) hg0 hg1 hhash

theorem zzgrow_any (hp S n cap N : Nat) (g : Int) (T : Nat → Int × Int × Int) (w : World) (hh : Head w hp S n cap g (.slice none 0 0)) (ht : SlotsB w S cap T) (hne : hp ≠ S) (hn : n ≤ 4096) (hc1 : n ≤ cap) (hc2 : cap ≤ 16384)
    (hN : Hid (N = size2 n)) (h2 : Pow2 N) (hg0 : 0 ≤ g) (hg1 : g ≤ 4294967295) (hhash : ∀ i, i < n → 0 ≤ (T i).2.2 ∧ (T i).2.2 < 18446744073709551616) (hgens : ∀ i, i < cap → (T i).1 ≤ g) (cap' : Nat) (hcap' : cap' = if N ≤ cap then cap else N) :
    Calls Try.prog 14 #[.pointer (some ⟨hp, 0, none⟩)] w fun e w' => e = .returned (.tuple #[]) ∧ (∃ S' mv, Placing w' hp S' N cap' (nextG g) mv (items g T n)) ∧ Mut w w' S hp := by
  have C := grow_any hp S n cap N g T w hh ht hne hn hc1 hc2 hN h2 hg0 hg1 hhash hgens
  rw [← hcap'] at C
  have HC := hide C
  clear hh ht hhash hgens C hcap'
  go_enter Try.func14, Try.ntmps14
  go_wp2_with (go_at_call 28; refine HC.out.mono ?_; rintro e w' ⟨rfl, S', mv, q1, q2⟩)
  go_end0
  exact ⟨rfl, ⟨S', mv, q1⟩, q2⟩

end Go.Proofs.Qxb6001121a.HxRoom
