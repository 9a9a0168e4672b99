/-
  THE WALK of grow.
-/
import Derived.Test.Qxb6001121aHxWalkA
import Derived.Test.Qxb6001121aHxPlain
namespace Go.Proofs.Qxb6001121a.HxGrow
open Go.RowKit Go.Proofs.Qxb6001121a.Mem Go.Proofs.Qxb6001121a.EdBase Go.Proofs.Qxb6001121a.HxMem Go.Proofs.Qxb6001121a.HxBits Go.Proofs.Qxb6001121a.HxPlain Go.Proofs.Qxb6001121a.HxWalkA

/-- the new size -/
def size2 (n : Nat) : Nat := max (2 * n) 128

/-- THE TABLE WHILE ITEMS ARE PLACED: those of L are in it, each on its chain -/
def Placing (wr : World) (hp S N cap : Nat) (g : Int) (mv : Value) (L : List (Int × Int)) : Prop :=
  Head wr hp S N cap g mv ∧ ∃ T, SlotsB wr S cap T ∧ Chain g N T ∧ (items g T N).Perm L

theorem nextG_pos {g : Int} (h : 0 ≤ g) : 1 ≤ nextG g := by unfold nextG; split <;> omega
theorem nextG_ne (g : Int) : nextG g ≠ g := by unfold nextG; split <;> omega

/-- an empty table -/
theorem placing_start {wr : World} {hp S N cap : Nat} {g : Int} {mv : Value} {T : Nat → Int × Int × Int} (hh : Head wr hp S N cap g mv) (ht : SlotsB wr S cap T) (h : ∀ i, i < N → (T i).1 ≠ g) : Placing wr hp S N cap g mv [] :=
  ⟨hh, T, ht, chain_none h, by rw [items_none h]⟩

theorem placing_alloc {wr : World} {hp S N cap : Nat} {g : Int} {mv : Value} {L : List (Int × Int)} (h : Placing wr hp S N cap g mv L) (o : Obj) : Placing (wr.alloc o) hp S N cap g mv L := by
  obtain ⟨hh, T, ht, hc, hp'⟩ := h
  exact ⟨hh.of_block (Below.heap_alloc _ _ _ hh.lt), T, ht.of_block (Below.heap_alloc _ _ _ ht.lt), hc, hp'⟩

/-- what a call of place wants, and what it gives -/
theorem placing_call {wr : World} {hp S N cap : Nat} {g : Int} {mv : Value} {L : List (Int × Int)} (h : Placing wr hp S N cap g mv L) (hne : hp ≠ S) (h2 : Pow2 N) (hN : 1 ≤ N) (hM : N ≤ cap) (hC : cap ≤ 1048576) (hL : L.length < N) (x v : Int) (hx : 0 ≤ x ∧ x < 18446744073709551616) (o : Obj) :
    Calls Try.prog 32 #[.pointer (some ⟨hp, 0, none⟩), .int .u64 x, .int .i64 v] (wr.alloc o) fun e w' => e = .returned (.tuple #[]) ∧ Placing w' hp S N cap g mv (L ++ [(x, v)]) ∧ (wr.alloc o).grownBy w' (some S) := by
  obtain ⟨hh, T, ht, hc, hp'⟩ := h
  obtain ⟨d, hd, hf, hu⟩ := first_free (g := g) (T := T) x (show 0 < N by omega) (by rw [hp'.length_eq]; exact hL)
  have hh' : Head (wr.alloc o) hp S N cap g mv := hh.of_block (Below.heap_alloc _ _ _ hh.lt)
  have ht' : SlotsB (wr.alloc o) S cap T := ht.of_block (Below.heap_alloc _ _ _ ht.lt)
  refine (place_any hp S N cap g x v mv T (wr.alloc o) hh' ht' h2 hN hM hC hx.1 hx.2 (home N x) d rfl hd hf hu).mono fun e w' ⟨h1, h3, h4, h5⟩ => ⟨h1, ⟨?_, _, h3, ?_, ?_⟩, h4⟩
  · exact hh'.of_block (h4.block hp hh'.lt (by simpa using hne))
  · exact chain_put v x (by omega) hc hd hf hu
  · exact ((items_put v x hf (Nat.mod_lt _ (by omega))).trans (hp'.cons _)).trans (List.perm_append_comm (l₁ := [(x, v)]) (l₂ := L))

set_option maxRecDepth 100000 in
set_option maxHeartbeats 2000000 in
theorem grow_new (hp S n cap N : Nat) (g : Int) (T : Nat → Int × Int × Int) (w : World) (hh : Head w hp S n cap g (.slice none 0 0)) (ht : SlotsB w S cap T) (hne : hp ≠ S) (hn : n ≤ 4096) (hc1 : n ≤ cap) (hc2 : cap ≤ 16384)
    (hN : Hid (N = size2 n)) (h2 : Pow2 N) (hroom : cap < N) (hg0 : 0 ≤ g) (hg1 : g ≤ 4294967295) (hhash : ∀ i, i < n → 0 ≤ (T i).2.2 ∧ (T i).2.2 < 18446744073709551616) :
    Calls Try.prog 28 #[.pointer (some ⟨hp, 0, none⟩)] w fun e w' => e = .returned (.tuple #[]) ∧ ∃ S' mv, Placing w' hp S' N N (nextG g) mv (items g T n) ∧ Mut w w' S hp := by
  have h0 := hh.slots
  have hg := hh.gen
  have f0 := hh.free 0
  have hN2 : N ≤ 8192 := by have := hN.out; unfold size2 at this; omega
  have hN3 : 2 * n ≤ N := by have := hN.out; unfold size2 at this; omega
  have hN4 : 128 ≤ N := by have := hN.out; unfold size2 at this; omega
  have hmax : (if (2 * (n : Int)) < 128 then (128 : Int) else 2 * (n : Int)) = (N : Int) := by have := hN.out; unfold size2 at this; split <;> omega
  have hSlt := ht.lt
  have HH := hide hh
  have HT := hide ht
  have HX := hide hhash
  clear hh ht hhash
  go_enter Try.func28, Try.ntmps28
  go_wp2_with (at_make; refine wp_mkSlots _ rfl _ _ rfl _ _ N rfl rfl (by omega) (by omega) (by omega) ?_; intro w1 hs1 hb1 hz1; have hlt := HH.out.lt; have hh1 := HH.out.of_block (hb1.block hp hlt); have c10 := hh1.slots; have f10 := hh1.free 0; have c12 := hh1.gen; have HH1 := hide hh1; have HS1 := hide hs1; have HB1 := hide hb1; have HZ1 := hide hz1; clear hh1 hs1 hb1 hz1)
  refine (nextGen_any hp w.heap.size N N g (.slice none 0 0) (fun _ => (0, 0, 0)) _ (HH1.out.setSlots _ _ _) (HS1.out.other (a := ⟨hp, 0, none⟩) (by simp; omega) _) (by omega) (by omega) (by omega) (by omega) hg0 hg1).mono ?_
  rintro e w3 ⟨rfl, hh3, ht3, hm3, hz3⟩
  have P3 : Hid (Placing w3 hp w.heap.size N N (nextG g) (.slice none 0 0) (items g T 0)) := placing_start hh3 ht3 (fun i _ => by
    have := nextG_pos hg0
    unfold nextT
    split <;> (show (0 : Int) ≠ _; omega))
  have M3 : Hid (Mut w w3 S hp) := by
    have a1 : Mut w (w1.setCell ⟨hp, 0, none⟩ (.slice (some ⟨w.heap.size, 0, none⟩) N N)) S hp := ((Mut.refl w S hp).below HB1.out (Nat.le_refl _)).setCell (x := ⟨hp, 0, none⟩) (by simp) _
    exact ⟨hm3.os.trans a1.os, hm3.tape.trans a1.tape, hm3.output.trans a1.output, Nat.le_trans a1.size hm3.size, fun k hk e1 e2 => (hm3.block k (Nat.lt_of_lt_of_le hk a1.size) (by omega) e2).trans (a1.block k hk e1 e2)⟩
  have T3 : Hid (SlotsB w3 S cap T) := HT.out.of_block (by
    have hS := HT.out.lt
    rw [hm3.block S (by simp [World.setCell, HZ1.out]; omega) (by omega) (fun e => hne e.symm), Below.heap_setCell _ _ _ _ (fun e => hne e.symm)]
    exact HB1.out.block S hS)
  clear hh3 ht3 hm3 hz3 HH1 HS1 HB1 HZ1 c10 f10 c12 h0 hg f0 HH HT
  go_wp2_with fail
  go_loopw [79] (fun i wr => ∃ k : Nat, k ≤ n ∧ i = .int .i64 k ∧ Placing wr hp w.heap.size N N (nextG g) (.slice none 0 0) (items g T k) ∧ SlotsB wr S cap T ∧ Mut w wr S hp) (fun i _ => n - (intOf i).toNat)
  case atStart => exact ⟨0, Nat.zero_le _, rfl, P3.out, T3.out, M3.out⟩
  case round =>
    clear P3 T3 M3
    obtain ⟨k, hk, rfl, hP, hT, hM⟩ := hrel
    by_cases hkn : k < n
    · have c0 := hT.cell0 (i := k) (by omega)
      have c1 := hT.cell1 (i := k) (by omega)
      have c2 := hT.cell2 (i := k) (by omega)
      have hsz := hM.size
      by_cases he : (T k).1 = g
      · have CALL := fun o => placing_call hP (by omega) h2 (by omega) (Nat.le_refl _) (by omega) (by have := items_le g T k; omega) (T k).2.2 (T k).2.1 (HX.out k hkn) o
        have EQ := hide (items_hit he)
        rw [he] at c0
        have HP := hide CALL
        have HT := hide hT
        have HM := hide hM
        clear he CALL hP hT hM
        obtain ⟨v, hv⟩ : ∃ v, (T k).2.1 = v := ⟨_, rfl⟩
        obtain ⟨x, hx⟩ : ∃ x, (T k).2.2 = x := ⟨_, rfl⟩
        rw [hv] at c1
        rw [hx] at c2
        rw [hv, hx] at HP EQ
        clear hv hx
        go_wp2_with (go_at_call 32; refine (HP.out _).mono ?_; rintro e w4 ⟨rfl, hp4, hg4⟩)
        go_roundw
        case rel =>
          refine ⟨k + 1, by omega, by go_num, by rw [EQ.out]; exact hp4, ?_, ?_⟩
          · exact (HT.out.of_block (Below.heap_alloc _ _ _ HT.out.lt)).of_block (hg4.block S (by simp; have := HT.out.lt; omega) (by simp; omega))
          · exact (HM.out.below ((Below.refl _ _).alloc (Nat.le_refl _) _) hsz).grown hg4 (fun j hj => by cases hj; exact Or.inr (Or.inr (Nat.le_refl _)))
        case measure => simp [intOf]; omega
      · have EQ := hide (items_miss he)
        have he' : ((T k).1 == g) = false := by simpa using he
        have HP := hide hP
        have HT := hide hT
        have HM := hide hM
        clear he hP hT hM
        obtain ⟨y, hy⟩ : ∃ y, (T k).1 = y := ⟨_, rfl⟩
        rw [hy] at c0 he'
        clear hy
        go_wp2
        go_roundw
        case rel =>
          exact ⟨k + 1, by omega, by go_num, by rw [EQ.out]; exact placing_alloc HP.out _, HT.out.of_block (Below.heap_alloc _ _ _ HT.out.lt), HM.out.below ((Below.refl _ _).alloc (Nat.le_refl _) _) hsz⟩
        case measure => simp [intOf]; omega
    · obtain rfl : k = n := by omega
      have HP := hide hP
      have HM := hide hM
      clear hP hM hT
      go_wp2
      go_end0
      exact ⟨rfl, _, _, HP.out, HM.out⟩

end Go.Proofs.Qxb6001121a.HxGrow
