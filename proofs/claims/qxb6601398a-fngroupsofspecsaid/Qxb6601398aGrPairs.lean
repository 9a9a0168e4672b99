/-
  ROWS OF GROUPS (two cells each), and the walk of groupsOf.
-/
import Derived.Test.Qxb6601398aGrBytes
namespace Go.Proofs.Qxb6601398a.GrPairs
open Go.RowKit Go.Proofs.Qxb6601398a.Mem Go.Proofs.Qxb6601398a.GrBase

theorem info45 : (Try.prog.info? 45).map (fun i => (i.zero, i.size, i.bytes)) = some (some (.agg #[.string ⟨#[]⟩, .bool false]), 2, 24) := by kernel_rfl

/-- the cells of the first k groups; the rest is empty -/
def gf (k : Nat) (S : Nat → ByteArray) (W : Nat → Bool) (j : Nat) : Value :=
  if j < k * 2 then (if j % 2 = 0 then .string (S (j / 2)) else .bool (W (j / 2))) else (if j % 2 = 0 then .string ⟨#[]⟩ else .bool false)

theorem gf_step {w : World} {b N k : Nat} {S : Nat → ByteArray} {W : Nat → Bool} (h : RowB w b 45 N (gf k S W)) :
    RowB ((w.setCell ⟨b, k * 2, none⟩ (.string (S k))).setCell ⟨b, k * 2 + 1, none⟩ (.bool (W k))) b 45 N (gf (k + 1) S W) :=
  ((h.set (k * 2) (.string (S k))).set (k * 2 + 1) (.bool (W k))).congr fun j _ => by
    simp only [gf]
    by_cases e : j = k * 2 + 1
    · subst e
      rw [if_pos rfl, if_pos (by omega), if_neg (by omega)]
      rw [show (k * 2 + 1) / 2 = k from by omega]
    · rw [if_neg e]
      by_cases e' : j = k * 2
      · subst e'
        rw [if_pos rfl, if_pos (by omega), if_pos (by omega)]
        rw [show k * 2 / 2 = k from by omega]
      · rw [if_neg e']
        by_cases e2 : j < k * 2
        · rw [if_pos e2, if_pos (show j < (k + 1) * 2 from by omega)]
        · rw [if_neg e2, if_neg (show ¬ j < (k + 1) * 2 from by omega)]

theorem gf_made (w : World) (n : Nat) (S : Nat → ByteArray) (W : Nat → Bool) : RowB (w.alloc (.cells (madeCells #[.string ⟨#[]⟩, .bool false] (n * 2)) 45)) w.heap.size 45 (n * 2) (gf 0 S W) := by
  refine ⟨_, heap_alloc_new w _, size_madeCells _ _, fun i hi => ?_⟩
  have : i % 2 = 0 ∨ i % 2 = 1 := by omega
  rcases this with m | m
  · simp [madeCells, hi, m, gf]
  · simp [madeCells, hi, m, gf]

/-- 'make([]group, 0, n)' -/
theorem wp_mkGroups (w : World) {ops : Array Oper} {rest : List Oper} {o : Oper} {a : Act} {Q : Exit → Act → World → Prop}
    (hg : o.guard = none) (l c : Operand) (hop : o.op = Op.makeSlice 42 l c) (C : Int) (n : Nat) (hl : a.eval l = .int .i64 0) (hc : a.eval c = .int .i64 C) (hC : C = (n : Int)) (b2 : n ≤ 2097152) (S : Nat → ByteArray) (W : Nat → Bool)
    (hK : ∀ w', RowB w' w.heap.size 45 (n * 2) (gf 0 S W) → Below w.heap.size w w' → w'.heap.size = w.heap.size + 1 → wpList Try.prog ops Q rest (a.put o.dst (.slice (some ⟨w.heap.size, 0, none⟩) 0 n)) w') :
    wpList Try.prog ops Q (o :: rest) a w := by
  refine wpList_plain hg fun K hK' => ?_
  obtain ⟨i, hi, hz, hs, hb⟩ := info_parts info45
  have hrun := run_make (P := Try.prog) w 42 45 i _ Try.underlying42 hi hz .i64 .i64 0 (n : Int) (by omega) (by omega) (by rw [hb]; omega) (by omega)
  subst hC
  simp only [Int.toNat_natCast, Int.toNat_zero, hs] at hrun
  unfold Oper.wp
  simp [execOp, hop, hl, hc, hrun, Result.andThen]
  exact hK' _ _ (hK _ (gf_made w n S W) ((Below.refl _ _).alloc (Nat.le_refl _) _) (by simp))

/-- 'append(gs, group{..})' within the capacity -/
theorem wp_appG (w : World) {ops : Array Oper} {rest : List Oper} {o : Oper} {a : Act} {Q : Exit → Act → World → Prop}
    (hg : o.guard = none) (s x : Operand) (hop : o.op = Op.call { callee := Callee.builtin Builtin.append, args := #[s, x], argTypes := #[42, 42] })
    (b k cap : Nat) (S : Nat → ByteArray) (W : Nat → Bool) (hs : a.eval s = .slice (some ⟨b, 0, none⟩) k cap) (hrow : RowB w b 45 (cap * 2) (gf k S W)) (hk : k < cap)
    (ad c : Nat) (hx : a.eval x = .slice (some ⟨ad, 0, none⟩) 1 c) (hv : w.cell? ⟨ad, 0, none⟩ = some (.string (S k))) (hv2 : w.cell? ⟨ad, 1, none⟩ = some (.bool (W k)))
    (hK : ∀ w', RowB w' b 45 (cap * 2) (gf (k + 1) S W) → w.grownBy w' (some b) → w'.heap.size = w.heap.size → wpList Try.prog ops Q rest (a.put o.dst (.slice (some ⟨b, 0, none⟩) (k + 1) cap)) w') :
    wpList Try.prog ops Q (o :: rest) a w := by
  refine wpList_plain hg fun K hK' => ?_
  obtain ⟨i, hi, hz, hsz, hb⟩ := info_parts info45
  have hrun := run_append_room_cells (P := Try.prog) w 42 o.type 45 i Try.underlying42 hi b 0 k cap ⟨ad, 0, none⟩ 1 c [.string (S k), .bool (W k)] (by rw [hsz]; rfl)
    (fun j u hj => by
      match j, hj with
      | 0, hj => simp at hj; subst hj; simpa [Addr.add] using hv
      | 1, hj => simp at hj; subst hj; simpa [Addr.add] using hv2
      | j + 2, hj => simp at hj)
    (fun u hu => by simp at hu; rcases hu with rfl | rfl <;> rfl) (by omega)
    (fun j hj => by
      have : j < 2 := by simpa using hj
      rw [hsz]
      rw [hrow.cell (show 0 + k * 2 + j < cap * 2 from by omega)]; rfl)
    (fun j hj => by exact hrow.free _)
  rw [hsz] at hrun
  simp only [Nat.zero_add, World.setCells] at hrun
  unfold Oper.wp
  simp [execOp, hop, resolve, invoke, builtin, hs, hx, hrun, Result.andThen]
  exact hK' _ _ (hK _ (gf_step hrow) ⟨rfl, rfl, rfl, by simp [World.setCell], fun j _ hj => by
    rw [Below.heap_setCell _ _ _ _ (fun e => hj (by rw [e])), Below.heap_setCell _ _ _ _ (fun e => hj (by rw [e]))]⟩ (by simp [World.setCell]))

theorem app_keep {wr wa : World} {b : Nat} (o : Obj) (h : (wr.alloc o).grownBy wa (some b)) (j : Nat) (hj : j < wr.heap.size) (hne : j ≠ b) : wa.heap[j]? = wr.heap[j]? := by
  rw [h.block j (by simp; omega) (by simpa using hne)]
  exact Below.heap_alloc _ _ _ hj

/-- how many groups a type has -/
def per (m : Bool) : Nat := if m then 1 else 2
/-- the type and the mark of group e -/
def gS (m : Bool) (A : Nat → ByteArray) (e : Nat) : ByteArray := A (e / per m)
def gW (m : Bool) (e : Nat) : Bool := m || (e % 2 == 0)

/-- what the walk of groupsOf knows of memory: the boxed argument's mark, the row of groups -/
def GrW (w wr : World) (n k : Nat) (m : Bool) (A : Nat → ByteArray) : Prop :=
  wr.cell? ⟨w.heap.size, 4, none⟩ = some (.bool m) ∧ RowB wr (w.heap.size + 1) 45 (2 * n * 2) (gf k (gS m A) (gW m)) ∧ Below w.heap.size w wr

theorem GrW.push {w wr wa : World} {n k : Nat} {m : Bool} {A : Nat → ByteArray} (h : GrW w wr n k m A) {o : Obj} {k' : Nat} (hr : RowB wa (w.heap.size + 1) 45 (2 * n * 2) (gf k' (gS m A) (gW m))) (hg : (wr.alloc o).grownBy wa (some (w.heap.size + 1))) (hs : wa.heap.size = (wr.alloc o).heap.size) : GrW w wa n k' m A := by
  obtain ⟨h1, h2, h3⟩ := h
  have hlt := h2.lt
  have hsz : wa.heap.size = wr.heap.size + 1 := by rw [hs]; simp
  refine ⟨(World.cell?_of_block (a := ⟨w.heap.size, 4, none⟩) (app_keep o hg w.heap.size (by omega) (by omega))).trans h1, hr, ⟨hg.os.trans h3.os, hg.tape.trans h3.tape, hg.output.trans h3.output, by omega, fun j hj => ?_⟩⟩
  rw [app_keep o hg j (by omega) (by omega)]
  exact h3.block j hj

theorem made_gr {w w1 : World} {n : Nat} {m : Bool} {A : Nat → ByteArray} {o : Obj} (hc : w1.cell? ⟨w.heap.size, 4, none⟩ = some (.bool m)) (hrow : RowB w1 (w.alloc o).heap.size 45 (2 * n * 2) (gf 0 (gS m A) (gW m))) (hb : Below (w.alloc o).heap.size (w.alloc o) w1) : GrW w w1 n 0 m A :=
  ⟨hc, by simpa using hrow, ((Below.refl w.heap.size w).alloc (Nat.le_refl _) o).trans (hb.mono (by simp))⟩

set_option maxHeartbeats 1000000 in
theorem groups_any (fig : ByteArray) (ao : Option Addr) (n c : Nat) (A : Nat → ByteArray) (m : Bool) (a2 a6 : Option Addr) (n2 c2 n6 c6 : Nat) (w : World) (hr : RowS w ao n A) (hn : n ≤ 1048576) :
    Calls Try.prog 15 #[.agg #[.string fig, .slice ao n c, .slice a2 n2 c2, .slice none 0 0, .bool m, .pointer none, .slice a6 n6 c6, .slice none 0 0]] w
      fun e w' => e = .returned (.slice (some ⟨w.heap.size + 1, 0, none⟩) (per m * n) (2 * n)) ∧ RowB w' (w.heap.size + 1) 45 (2 * n * 2) (gf (per m * n) (gS m A) (gW m)) ∧ Below w.heap.size w w' := by
  go_enter Try.func15, Try.ntmps15
  go_wp2_with (at_make; refine wp_mkGroups _ rfl _ _ rfl _ (2 * n) rfl rfl (by omega) (by omega) (gS m A) (gW m) ?_; intro w1 hrow hbel hsz; have hc1 : w1.cell? ⟨w.heap.size, 1, none⟩ = some (.slice ao n c) := (hbel.cell (p := ⟨w.heap.size, 1, none⟩) (by simp)).trans (by simp); have hc4 : w1.cell? ⟨w.heap.size, 4, none⟩ = some (.bool m) := (hbel.cell (p := ⟨w.heap.size, 4, none⟩) (by simp)).trans (by simp); have G : Hid (GrW w w1 n 0 m A) := made_gr hc4 hrow hbel; clear hrow hbel hsz hc4)
  go_loopw [3, 14] (fun sv i wr => ∃ k : Nat, k ≤ n ∧ i = .int .i64 k ∧ sv = .slice (some ⟨w.heap.size + 1, 0, none⟩) (per m * k) (2 * n) ∧ GrW w wr n (per m * k) m A) (fun _ i _ => n - (intOf i).toNat)
  case atStart => exact ⟨0, Nat.zero_le _, rfl, rfl, G.out⟩
  case round =>
    clear G hc1
    obtain ⟨k, hk, rfl, rfl, hG⟩ := hrel
    by_cases hlt : k < n
    · obtain ⟨b, o, e, hbl, hc⟩ := hr (by omega)
      cases e
      have hcx : wr.cell? ⟨b, o + k, none⟩ = some (.string (A k)) := (hG.2.2.cell (p := ⟨b, o + k, none⟩) hbl).trans (hc k hlt)
      clear hc hr
      cases m with
      | true =>
        have e1 : per true * k = k := by simp [per]
        rw [e1] at hG ⊢
        have G := hide hG
        clear hG
        have s1 : gS true A k = A k := by simp [gS, per]
        have s2 : gW true k = true := rfl
        go_wp2_with (at_builtin; refine wp_appG _ rfl _ _ rfl (w.heap.size + 1) k (2 * n) (gS true A) (gW true) rfl (G.out.2.1.alloc _) (by omega) wr.heap.size 1 rfl (by simp [s1]) (by simp [s2]) ?_; intro wa hra hga hsa; have Ga : Hid (GrW w wa n (k + 1) true A) := G.out.push hra hga hsa; have hc4 := Ga.out.1; clear hra hga hsa)
        go_roundw
        case rel => exact ⟨k + 1, by omega, by go_num, by simp [per], by simp only [per, if_true, Nat.one_mul]; exact Ga.out⟩
        case measure => simp [intOf]; omega
      | false =>
        have tokA : True := trivial
        have e1 : per false * k = 2 * k := by simp [per]
        rw [e1] at hG ⊢
        have G := hide hG
        clear hG
        have s1 : gS false A (2 * k) = A k := by simp [gS, per]
        have s2 : gW false (2 * k) = true := by simp [gW]
        have s3 : gS false A (2 * k + 1) = A k := by simp only [gS, per]; rw [show (2 * k + 1) / (if false = true then 1 else 2) = k from by simp; omega]
        have s4 : gW false (2 * k + 1) = false := by simp [gW]
        go_wp2_with (first
          | (at_builtin; have _t := tokA; refine wp_appG _ rfl _ _ rfl (w.heap.size + 1) (2 * k) (2 * n) (gS false A) (gW false) rfl (G.out.2.1.alloc _) (by omega) wr.heap.size 1 rfl (by simp [s1]) (by simp [s2]) ?_; intro wa hra hga hsa; have Ga : Hid (GrW w wa n (2 * k + 1) false A) := G.out.push hra hga hsa; have hc4 := Ga.out.1; clear tokA _t hra hga hsa)
          | (at_builtin; refine wp_appG _ rfl _ _ rfl (w.heap.size + 1) (2 * k + 1) (2 * n) (gS false A) (gW false) rfl (Ga.out.2.1.alloc _) (by omega) wa.heap.size 1 rfl (by simp [s3]) (by simp [s4]) ?_; intro wb hrb hgb hsb; have Gb : Hid (GrW w wb n (2 * k + 2) false A) := Ga.out.push hrb hgb hsb; clear hrb hgb hsb))
        go_roundw
        case rel => exact ⟨k + 1, by omega, by go_num, by simp [per]; omega, by simp only [per]; exact Gb.out⟩
        case measure => simp [intOf]; omega
    · obtain rfl : k = n := by omega
      go_wp2
      go_ret
      exact ⟨rfl, hG.2.1, hG.2.2⟩

end Go.Proofs.Qxb6601398a.GrPairs
