/-
  THE SMALL FUNCTIONS of the hash index.
-/
import Derived.Test.Qxb6001121aHxMem
import Derived.Test.Qxb6001121aHxBits
namespace Go.Proofs.Qxb6001121a.HxWalkA
open Go.RowKit Go.Proofs.Qxb6001121a.Mem Go.Proofs.Qxb6001121a.EdBase Go.Proofs.Qxb6001121a.HxMem Go.Proofs.Qxb6001121a.HxBits

theorem hide {p : Prop} (h : p) : Hid p := h

set_option maxRecDepth 100000 in
theorem slot_any (hp S N cap M i : Nat) (g : Int) (mv : Value) (T : Nat → Int × Int × Int) (w : World) (hh : Head w hp S N cap g mv) (ht : SlotsB w S M T) (hi : i < N) (hM : N ≤ M) :
    Calls Try.prog 18 #[.pointer (some ⟨hp, 0, none⟩), .int .i64 (i : Int)] w fun e w' => e = .returned (.tuple #[.int .u32 (T i).1, .int .i64 (T i).2.1, .int .u64 (T i).2.2]) ∧ Below w.heap.size w w' := by
  have h0 := hh.slots
  have c0 := ht.cell0 (i := i) (by omega)
  have c1 := ht.cell1 (i := i) (by omega)
  have c2 := ht.cell2 (i := i) (by omega)
  clear hh ht
  go_enter Try.func18, Try.ntmps18
  go_wp2
  go_quiet (fail)
  go_wp2
  go_ret3
  exact ⟨rfl, ⟨rfl, rfl, rfl, by simp [World.drewN], fun k hk => Below.heap_alloc _ _ _ hk⟩⟩

theorem len_any (hp S N cap : Nat) (g : Int) (mv : Value) (w : World) (hh : Head w hp S N cap g mv) : Calls Try.prog 15 #[.pointer (some ⟨hp, 0, none⟩)] w fun e w' => e = .returned (.int .i64 (N : Int)) ∧ w' = w := by
  have h0 := hh.slots
  clear hh
  go_enter Try.func15, Try.ntmps15
  go_wp2
  go_ret
  exact ⟨rfl, rfl⟩
theorem cap_any (hp S N cap : Nat) (g : Int) (mv : Value) (w : World) (hh : Head w hp S N cap g mv) : Calls Try.prog 16 #[.pointer (some ⟨hp, 0, none⟩)] w fun e w' => e = .returned (.int .i64 (cap : Int)) ∧ w' = w := by
  have h0 := hh.slots
  clear hh
  go_enter Try.func16, Try.ntmps16
  go_wp2
  go_ret
  exact ⟨rfl, rfl⟩
theorem gen_any (hp S N cap : Nat) (g : Int) (mv : Value) (w : World) (hh : Head w hp S N cap g mv) : Calls Try.prog 17 #[.pointer (some ⟨hp, 0, none⟩)] w fun e w' => e = .returned (.int .u32 g) ∧ w' = w := by
  have h0 := hh.gen
  clear hh
  go_enter Try.func17, Try.ntmps17
  go_wp2
  go_ret
  exact ⟨rfl, rfl⟩

theorem grown3 (w : World) (S q a b c : Nat) (x y z : Value) : w.grownBy ((((w.drewN q).setCell ⟨S, a, none⟩ x).setCell ⟨S, b, none⟩ y).setCell ⟨S, c, none⟩ z) (some S) :=
  ⟨rfl, rfl, rfl, by simp [World.setCell, World.drewN], fun k _ hk => by
    have hk' : k ≠ S := fun e => hk (by rw [e])
    rw [Below.heap_setCell _ _ _ _ hk', Below.heap_setCell _ _ _ _ hk', Below.heap_setCell _ _ _ _ hk']
    rfl⟩

set_option maxRecDepth 100000 in
set_option maxHeartbeats 1000000 in
theorem place_any (hp S N cap : Nat) (g x v : Int) (mv : Value) (T : Nat → Int × Int × Int) (w : World) (hh : Head w hp S N cap g mv) (ht : SlotsB w S cap T) (h2 : Pow2 N) (hN : 1 ≤ N) (hM : N ≤ cap) (hC : cap ≤ 1048576)
    (hx0 : 0 ≤ x) (hx1 : Hid (x < 18446744073709551616)) (home d : Nat) (hhome : Hid (home = x.toNat % N)) (hd : d < N) (hfree : (T ((home + d) % N)).1 ≠ g) (hused : ∀ t, t < d → (T ((home + t) % N)).1 = g) :
    Calls Try.prog 32 #[.pointer (some ⟨hp, 0, none⟩), .int .u64 x, .int .i64 v] w fun e w' => e = .returned (.tuple #[]) ∧ SlotsB w' S cap (updT T ((home + d) % N) (g, v, x)) ∧ w.grownBy w' (some S) ∧ w'.heap.size = w.heap.size := by
  have h0 := hh.slots
  have hg := hh.gen
  have hm0 : bits .and .u64 x ((N : Int) - 1) = (home : Int) := by rw [hhome.out]; exact mask_u64 h2 (by omega) hx0 hx1.out
  have hmq : ∀ q : Nat, q < N → bits .and .u64 ((q : Int) + 1) ((N : Int) - 1) = (((q + 1) % N : Nat) : Int) := fun q hq => by
    have := mask_u64 (x := (q : Int) + 1) h2 (by omega) (by omega) (by omega)
    rwa [show ((q : Int) + 1).toNat = q + 1 from by omega] at this
  have hhN : home < N := by rw [hhome.out]; exact Nat.mod_lt _ (by omega)
  have HT := hide ht
  have HU := hide hused
  have HF := hide hfree
  clear hh ht hused hfree h2
  have HM := hide hmq
  clear hmq
  go_enter Try.func32, Try.ntmps32
  go_wp2_with fail
  go_loopw [7] (fun i wr => ∃ t q : Nat, t ≤ d ∧ q = (home + t) % N ∧ i = .int .u64 (q : Int) ∧ ∃ nq, wr = w.drewN nq) (fun i _ => N - ((intOf i).toNat + N - home) % N)
  case atStart => exact ⟨0, home, Nat.zero_le _, by rw [Nat.add_zero, Nat.mod_eq_of_lt hhN], rfl, 0, rfl⟩
  case round =>
    clear hm0
    obtain ⟨t, q, htd, hq, rfl, nq0, rfl⟩ := hrel
    have hqN : q < N := by rw [hq]; exact Nat.mod_lt _ (by omega)
    have hqc : q < cap := by omega
    have c0 := HT.out.cell0 hqc
    have c1 := HT.out.cell1 hqc
    have c2 := HT.out.cell2 hqc
    have f0 := HT.out.free (q * 3)
    have f1 := HT.out.free (q * 3 + 1)
    have f2 := HT.out.free (q * 3 + 2)
    have HQ := hide hq
    clear hq
    have hqi : (q : Int) < (N : Int) := by omega
    by_cases hlt : t < d
    · have e : (T q).1 = g := by rw [HQ.out]; exact HU.out t hlt
      rw [e] at c0
      obtain ⟨q', hq'⟩ : ∃ q', q' = (q + 1) % N := ⟨_, rfl⟩
      have hm1 : bits .and .u64 ((q : Int) + 1) ((N : Int) - 1) = (q' : Int) := by rw [hq']; exact HM.out q hqN
      have HQ' := hide hq'
      clear e hq'
      go_wp2
      go_quiet (fail)
      go_wp2
      go_roundw
      case rel => exact ⟨t + 1, q', by omega, by rw [HQ'.out, HQ.out]; exact ring_next, rfl, nq0 + nq, rfl⟩
      case measure =>
        have e1 : (q + N - home) % N = t := by rw [HQ.out]; exact ring_back hhN (by omega)
        have e2 : (q' + N - home) % N = t + 1 := by rw [HQ'.out, HQ.out, ring_next]; exact ring_back hhN (by omega)
        simp only [intOf, Int.toNat_natCast]
        rw [e1, e2]
        omega
    · obtain rfl : t = d := by omega
      have hne : ((T q).1 == g) = false := by rw [HQ.out]; simpa using HF.out
      obtain ⟨y0, hy0⟩ : ∃ y, (T q).1 = y := ⟨_, rfl⟩
      rw [hy0] at hne c0
      clear hy0
      go_wp2
      go_quiet (fail)
      go_wp2
      refine wp_region_quiet_tail 13 (by kernel_rfl) (by kernel_rfl) ?_
      simp only [List.take_succ_cons, List.take_zero, List.drop_succ_cons, List.drop_zero]
      repeat (go_big_quiet_step (fail))
      refine wpQuiet_nil ?_
      go_wp2
      go_end0
      refine ⟨rfl, ?_, grown3 w S _ _ _ _ _ _ _, by simp [World.setCell, World.drewN]⟩
      rw [← HQ.out]
      exact SlotsB.set (w := w.drewN (nq0 + nq + 1)) HT.out q g v x

/-- what 'nextGeneration' makes of the generation and of the slots -/
def nextG (g : Int) : Int := if g = 4294967295 then 1 else g + 1
def nextT (g : Int) (T : Nat → Int × Int × Int) : Nat → Int × Int × Int := if g = 4294967295 then fun _ => (0, 0, 0) else T

set_option maxRecDepth 100000 in
set_option maxHeartbeats 1000000 in
theorem nextGen_any (hp S N cap : Nat) (g : Int) (mv : Value) (T : Nat → Int × Int × Int) (w : World) (hh : Head w hp S N cap g mv) (ht : SlotsB w S cap T) (hne : hp ≠ S) (hN : 1 ≤ N) (hM : N ≤ cap) (hC : cap ≤ 1048576) (hg0 : 0 ≤ g) (hg1 : g ≤ 4294967295) :
    Calls Try.prog 31 #[.pointer (some ⟨hp, 0, none⟩)] w fun e w' => e = .returned (.tuple #[]) ∧ Head w' hp S N cap (nextG g) mv ∧ SlotsB w' S cap (nextT g T) ∧ Mut w w' S hp ∧ w'.heap.size = w.heap.size := by
  have h0 := hh.slots
  have hg := hh.gen
  have f2 := hh.free 2
  by_cases hgg : g = 4294967295
  · subst hgg
    have HH := hide hh
    have HT := hide ht
    clear hh ht
    go_enter Try.func31, Try.ntmps31
    go_wp2
    refine wp_region_quiet_tail 10 (by kernel_rfl) (by kernel_rfl) ?_
    simp only [List.take_succ_cons, List.take_zero, List.drop_succ_cons, List.drop_zero]
    repeat (go_big_quiet_step (fail))
    refine wpQuiet_nil ?_
    refine wp_clear rfl _ rfl S cap cap T rfl (HT.out.other (a := ⟨hp, 2, none⟩) (fun e => hne e.symm) (.int .u32 0)) (by omega) ?_
    intro w' ht' hgr hsz
    have hh1 : Head w' hp S N cap 0 mv := (HH.out.setGen 0).of_block (hgr.block hp (by simpa [World.setCell, World.drew] using HH.out.lt) (by simpa using hne))
    have hM1 : Mut w w' S hp := Mut.grown (w := (w.setCell ⟨hp, 2, none⟩ (.int .u32 0)).drew) ⟨rfl, rfl, rfl, by simp [World.setCell, World.drew], fun k _ _ h2 => Below.heap_setCell w ⟨hp, 2, none⟩ (.int .u32 0) k h2⟩ hgr (fun k hk => by cases hk; exact Or.inl rfl)
    have c2 := hh1.gen
    have f2' := hh1.free 2
    have HH1 := hide hh1
    have HT1 := hide ht'
    have HM1 := hide hM1
    have HS1 := hide (show w'.heap.size = w.heap.size by rw [hsz]; simp [World.setCell, World.drew])
    clear hh1 ht' hM1 hsz hgr HH HT f2 hg h0
    go_wp2
    go_end0
    refine ⟨rfl, ?_, ?_, HM1.out.setCell (x := ⟨hp, 2, none⟩) (by simp) _, by simpa [World.setCell] using HS1.out⟩
    · rw [nextG, if_pos rfl]; exact HH1.out.setGen _
    · rw [nextT, if_pos rfl]; exact HT1.out.other (a := ⟨hp, 2, none⟩) (fun e => hne e.symm) _
  · have HH := hide hh
    have HT := hide ht
    clear hh ht
    have hgt : g < 4294967295 := by omega
    go_enter Try.func31, Try.ntmps31
    go_wp2
    go_end0
    refine ⟨rfl, ?_, ?_, (Mut.refl _ _ _).setCell (x := ⟨hp, 2, none⟩) (by simp) _, by simp [World.setCell]⟩
    · rw [nextG, if_neg hgg]; exact HH.out.setGen _
    · rw [nextT, if_neg hgg]; exact HT.out.other (a := ⟨hp, 2, none⟩) (fun e => hne e.symm) _

/-- the slots that ZZHashIndexFrom lays: the first n out of the three columns, then r of room -/
def laid (n : Nat) (G V H R : Nat → Int) (i : Nat) : Int × Int × Int := if i < n then (G i, V i, H i) else (R (i - n), 0, 0)
/-- after k of the n, after k of the room -/
def laidA (k : Nat) (G V H : Nat → Int) (i : Nat) : Int × Int × Int := if i < k then (G i, V i, H i) else (0, 0, 0)
def laidB (n k : Nat) (G V H R : Nat → Int) (i : Nat) : Int × Int × Int := if i < n then (G i, V i, H i) else if i < n + k then (R (i - n), 0, 0) else (0, 0, 0)

theorem laidA_step {w : World} {S M k : Nat} {G V H : Nat → Int} (h : SlotsB w S M (laidA k G V H)) :
    SlotsB (((w.setCell ⟨S, k * 3, none⟩ (.int .u32 (G k))).setCell ⟨S, k * 3 + 1, none⟩ (.int .i64 (V k))).setCell ⟨S, k * 3 + 2, none⟩ (.int .u64 (H k))) S M (laidA (k + 1) G V H) :=
  (h.set k (G k) (V k) (H k)).congr fun i _ => by
    simp only [updT, laidA]
    by_cases e : i = k
    · subst e; simp
    · rw [if_neg e]
      by_cases e' : i < k
      · rw [if_pos e', if_pos (by omega)]
      · rw [if_neg e', if_neg (by omega)]
theorem laidB_step {w : World} {S M n k : Nat} {G V H R : Nat → Int} (h : SlotsB w S M (laidB n k G V H R)) :
    SlotsB (((w.setCell ⟨S, (n + k) * 3, none⟩ (.int .u32 (R k))).setCell ⟨S, (n + k) * 3 + 1, none⟩ (.int .i64 0)).setCell ⟨S, (n + k) * 3 + 2, none⟩ (.int .u64 0)) S M (laidB n (k + 1) G V H R) :=
  (h.set (n + k) (R k) 0 0).congr fun i _ => by
    simp only [updT, laidB]
    by_cases e : i = n + k
    · rw [if_pos e, if_neg (by omega), if_pos (by omega), show i - n = k from by omega]
    · rw [if_neg e]
      by_cases e' : i < n
      · rw [if_pos e', if_pos e']
      · rw [if_neg e', if_neg e']
        by_cases e2 : i < n + k
        · rw [if_pos e2, if_pos (by omega)]
        · rw [if_neg e2, if_neg (by omega)]

theorem laid_mid (n : Nat) (G V H R : Nat → Int) (i : Nat) : laidA n G V H i = laidB n 0 G V H R i := by
  simp only [laidA, laidB]
  by_cases e : i < n
  · rw [if_pos e, if_pos e]
  · rw [if_neg e, if_neg e, if_neg (by omega)]
theorem laid_end (n r : Nat) (G V H R : Nat → Int) (i : Nat) (hi : i < n + r) : laidB n r G V H R i = laid n G V H R i := by
  simp only [laid, laidB]
  by_cases e : i < n
  · rw [if_pos e, if_pos e]
  · rw [if_neg e, if_neg e, if_pos hi]

theorem head_new (w : World) (S N cap : Nat) (u g : Int) (mv : Value) : Head (w.alloc (.cells #[.slice (some ⟨S, 0, none⟩) N cap, .int .i64 u, .int .u32 g, mv] 49)) w.heap.size S N cap g mv :=
  ⟨u, _, heap_alloc_new w _, rfl, fun i hi => by match i, hi with | 0, _ => rfl | 1, _ => rfl | 2, _ => rfl | 3, _ => rfl⟩

theorem ret_ptr {a b : Nat} (h : a = b) : Ending.returned (.pointer (some ⟨a, 0, none⟩)) = .returned (.pointer (some ⟨b, 0, none⟩)) := by rw [h]

theorem below_alike {D : Nat} {w wa wb : World} (h : Below D w wa) (hh : wb.heap = wa.heap) (h1 : wb.os = wa.os) (h2 : wb.tape = wa.tape) (h3 : wb.output = wa.output) : Below D w wb :=
  ⟨h1.trans h.os, h2.trans h.tape, h3.trans h.output, by rw [hh]; exact h.size, fun k hk => by rw [hh]; exact h.block k hk⟩

set_option maxRecDepth 100000 in
set_option maxHeartbeats 2000000 in
theorem from_any (ga va ha ra : Option Addr) (n r cg cv ch cr : Nat) (G V H R : Nat → Int) (gen : Int) (w : World) (rg : RowIn w .u32 ga n G) (rv : RowIn w .i64 va n V) (rh : RowIn w .u64 ha n H) (rr : RowIn w .u32 ra r R) (hn : n ≤ 4096) (hr : r ≤ 8192) :
    Calls Try.prog 13 #[.slice ga n cg, .slice va n cv, .slice ha n ch, .slice ra r cr, .int .u32 gen] w fun e w' => e = .returned (.pointer (some ⟨w.heap.size + 1, 0, none⟩)) ∧ Head w' (w.heap.size + 1) w.heap.size n (n + r) gen (.slice none 0 0) ∧
      SlotsB w' w.heap.size (n + r) (laid n G V H R) ∧ Below w.heap.size w w' ∧ w'.heap.size = w.heap.size + 2 := by
  go_enter Try.func13, Try.ntmps13
  go_wp2_with (at_make; refine wp_mkSlots _ rfl _ _ rfl _ _ (n + r) rfl rfl (by omega) (by omega) (by omega) ?_; intro w1 hs1 hb1 hz1)
  have HS1 := hide hs1
  have HB1 := hide hb1
  have HZ1 := hide hz1
  clear hs1 hb1 hz1
  go_loopw [13] (fun i wr => ∃ k : Nat, k ≤ n ∧ i = .int .i64 k ∧ SlotsB wr w.heap.size (n + r) (laidA k G V H) ∧ Below w.heap.size w wr ∧ wr.heap.size = w.heap.size + 1) (fun i _ => n - (intOf i).toNat)
  case atStart => exact ⟨0, Nat.zero_le _, rfl, HS1.out.congr (fun i _ => by simp [laidA]), HB1.out, HZ1.out⟩
  case round =>
    clear HS1 HB1 HZ1
    obtain ⟨k, hk, rfl, hs, hb, hz⟩ := hrel
    have HS := hide hs
    have HB := hide hb
    have HZ := hide hz
    clear hs hb hz
    by_cases hlt : k < n
    · obtain ⟨b1, o1, e1, hb1, hc1⟩ := rg (by omega)
      obtain ⟨b2, o2, e2, hb2, hc2⟩ := rv (by omega)
      obtain ⟨b3, o3, e3, hb3, hc3⟩ := rh (by omega)
      cases e1
      cases e2
      cases e3
      have q1 : wr.cell? ⟨b1, o1 + k, none⟩ = some (.int .u32 (G k)) := (HB.out.cell (p := ⟨b1, o1 + k, none⟩) hb1).trans (hc1 k hlt)
      have q2 : wr.cell? ⟨b2, o2 + k, none⟩ = some (.int .i64 (V k)) := (HB.out.cell (p := ⟨b2, o2 + k, none⟩) hb2).trans (hc2 k hlt)
      have q3 : wr.cell? ⟨b3, o3 + k, none⟩ = some (.int .u64 (H k)) := (HB.out.cell (p := ⟨b3, o3 + k, none⟩) hb3).trans (hc3 k hlt)
      have c0 := HS.out.cell0 (i := k) (by omega)
      have c1 := HS.out.cell1 (i := k) (by omega)
      have c2 := HS.out.cell2 (i := k) (by omega)
      have f0 := HS.out.free (k * 3)
      have f1 := HS.out.free (k * 3 + 1)
      have f2 := HS.out.free (k * 3 + 2)
      have hlt' : (k : Int) < (n : Int) := by omega
      clear rg rv rh rr hc1 hc2 hc3
      go_wp2
      refine wp_region_quiet_tail 16 (by kernel_rfl) (by kernel_rfl) ?_
      simp only [List.take_succ_cons, List.take_zero, List.drop_succ_cons, List.drop_zero]
      repeat (go_big_quiet_step (fail))
      refine wpQuiet_nil ?_
      go_wp2
      go_roundw
      case rel =>
        exact ⟨k + 1, by omega, by go_num, laidA_step (w := wr) HS.out, (((HB.out.setCell (p := ⟨w.heap.size, k * 3, none⟩) (Nat.le_refl _) _).setCell (p := ⟨w.heap.size, k * 3 + 1, none⟩) (Nat.le_refl _) _).setCell (p := ⟨w.heap.size, k * 3 + 2, none⟩) (Nat.le_refl _) _).drew, by simpa [World.setCell, World.drew] using HZ.out⟩
      case measure => simp [intOf]; omega
    · obtain rfl : k = n := by omega
      go_wp2_with fail
      go_loopw [14] (fun i wr => ∃ j : Nat, j ≤ r ∧ i = .int .i64 j ∧ SlotsB wr w.heap.size (k + r) (laidB k j G V H R) ∧ Below w.heap.size w wr ∧ wr.heap.size = w.heap.size + 1) (fun i _ => r - (intOf i).toNat)
      case atStart => exact ⟨0, Nat.zero_le _, rfl, HS.out.congr (fun i _ => laid_mid k G V H R i), HB.out, HZ.out⟩
      case round =>
        clear HS HB HZ
        obtain ⟨j, hj, rfl, hs, hb, hz⟩ := hrel
        have HS := hide hs
        have HB := hide hb
        have HZ := hide hz
        clear hs hb hz
        by_cases hjr : j < r
        · obtain ⟨b1, o1, e1, hb1, hc1⟩ := rr (by omega)
          cases e1
          have q1 : wr.cell? ⟨b1, o1 + j, none⟩ = some (.int .u32 (R j)) := (HB.out.cell (p := ⟨b1, o1 + j, none⟩) hb1).trans (hc1 j hjr)
          have c0 := HS.out.cell0 (i := k + j) (by omega)
          have c1 := HS.out.cell1 (i := k + j) (by omega)
          have c2 := HS.out.cell2 (i := k + j) (by omega)
          have f0 := HS.out.free ((k + j) * 3)
          have f1 := HS.out.free ((k + j) * 3 + 1)
          have f2 := HS.out.free ((k + j) * 3 + 2)
          have hlt' : (j : Int) < (r : Int) := by omega
          clear rg rv rh rr hc1
          go_wp2
          go_roundw
          case rel => exact ⟨j + 1, by omega, by go_num, laidB_step HS.out, ((HB.out.setCell (p := ⟨w.heap.size, (k + j) * 3, none⟩) (Nat.le_refl _) _).setCell (p := ⟨w.heap.size, (k + j) * 3 + 1, none⟩) (Nat.le_refl _) _).setCell (p := ⟨w.heap.size, (k + j) * 3 + 2, none⟩) (Nat.le_refl _) _, by simpa [World.setCell] using HZ.out⟩
          case measure => simp [intOf]; omega
        · obtain rfl : j = r := by omega
          go_wp2
          go_ret
          refine ⟨ret_ptr HZ.out, ?_, (HS.out.congr (laid_end k j G V H R)).of_block (Below.heap_alloc _ _ _ HS.out.lt), HB.out.alloc (by rw [HZ.out]; omega) _, by simp [HZ.out]⟩
          have h := head_new wr w.heap.size k (k + j) 0 gen (.slice none 0 0)
          rw [HZ.out] at h
          exact h

end Go.Proofs.Qxb6001121a.HxWalkA
