/-
  THE LAW's WALK over grow.
-/
import Derived.Test.Qxb6001121aHxMid
import Derived.Deep.DeepCutAuto
namespace Go.Proofs.Qxb6001121a.HxLaw
open Go.RowKit Go.Proofs.Qxb6001121a.Mem Go.Proofs.Qxb6001121a.EdBase Go.Proofs.Qxb6001121a.HxMem Go.Proofs.Qxb6001121a.HxBits Go.Proofs.Qxb6001121a.HxPlain Go.Proofs.Qxb6001121a.HxWalkA Go.Proofs.Qxb6001121a.HxGrow Go.Proofs.Qxb6001121a.HxRoom Go.Proofs.Qxb6001121a.HxBase Go.Proofs.Qxb6001121a.HxSortPlain Go.Proofs.Qxb6001121a.HxTail Go.Proofs.Qxb6001121a.HxMid

set_option maxRecDepth 100000 in
set_option maxHeartbeats 4000000 in
theorem law_true (ga va ha ra : Option Addr) (l r cg cv ch cr : Nat) (G V H R : Nat → Int) (gen : Int) (w : World) (rg : RowIn w .u32 ga l G) (rv : RowIn w .i64 va l V) (rh : RowIn w .u64 ha l H) (rr : RowIn w .u32 ra r R)
    (hn : l ≤ 4096) (hr : r ≤ 8192) (hg0 : 0 ≤ gen) (hg1 : gen ≤ 4294967295) (hH : ∀ i, i < l → 0 ≤ H i ∧ H i < 18446744073709551616) (hb : premB l l l r G R gen = true) :
    Calls Try.prog 3 #[.slice ga l cg, .slice va l cv, .slice ha l ch, .slice ra r cr, .int .u32 gen] w fun e w' => e = .returned (.bool true) ∧ Below w.heap.size w w' := by
  obtain ⟨_, _, hp2, hGg, hRg⟩ := prem_of hb
  have HB := HxWalkA.hide hb
  have HH := HxWalkA.hide hH
  have HG := HxWalkA.hide hGg
  have HR := HxWalkA.hide hRg
  obtain ⟨N, hN⟩ : ∃ N, N = size2 l := ⟨_, rfl⟩
  have P2 : HxBits.Pow2 N := by rw [hN]; exact size_pow2 l hn hp2
  have hN2 : N ≤ 8192 := by unfold size2 at hN; omega
  have hN3 : 2 * l ≤ N := by unfold size2 at hN; omega
  have hN4 : 128 ≤ N := by unfold size2 at hN; omega
  have hN5 : (2 * l < 128 ∧ N = 128) ∨ (128 ≤ 2 * l ∧ N = 2 * l) := by unfold size2 at hN; omega
  have HN := HxWalkA.hide hN
  clear hN hb hH hGg hRg hp2
  go_enter Try.func3, Try.ntmps3
  go_wp2_with (first | (go_at_call 8; refine (bytes_ok _ _ _ _ _ _ _ _ _ _ _ _ _ _ hn hn hn hr).mono ?_; rintro e w' ⟨rfl, rfl⟩) | (go_at_call 9; refine (premise_at _ _ _ _ _ _ _ _ _ _ _ _ G R _ _ rg rr hn hn hn hr true HB.out).mono ?_; rintro e w' ⟨rfl, rfl⟩))
  refine (cloneU32_any _ _ _ G _ rg (by omega)).mono ?_
  rintro e w1 ⟨g1, cg1, rfl, hr1, hb1⟩
  have rg1 := clone_in hr1
  have rv1 := rv.below hb1 (Nat.le_refl _)
  have rh1 := rh.below hb1 (Nat.le_refl _)
  have rr1 := rr.below hb1 (Nat.le_refl _)
  have W1 := HxWalkA.hide hb1
  clear hr1 hb1 rg rv rh rr HB
  go_wp2_with fail
  refine (cloneInts_any _ _ _ V _ rv1 (by omega)).mono ?_
  rintro e w2 ⟨v1, cv1, rfl, hr2, hb2⟩
  have rg2 := rg1.below hb2 (Nat.le_refl _)
  have rv2 := clone_in hr2
  have rh2 := rh1.below hb2 (Nat.le_refl _)
  have rr2 := rr1.below hb2 (Nat.le_refl _)
  have W2 := HxWalkA.hide (W1.out.trans (hb2.mono W1.out.size))
  clear hr2 hb2 rg1 rv1 rh1 rr1 W1
  go_wp2_with fail
  refine (cloneU64_any _ _ _ H _ rh2 (by omega)).mono ?_
  rintro e w3 ⟨h1, ch1, rfl, hr3, hb3⟩
  have rg3 := rg2.below hb3 (Nat.le_refl _)
  have rv3 := rv2.below hb3 (Nat.le_refl _)
  have rh3 := clone_in hr3
  have rr3 := rr2.below hb3 (Nat.le_refl _)
  have W3 := HxWalkA.hide (W2.out.trans (hb3.mono W2.out.size))
  clear hr3 hb3 rg2 rv2 rh2 rr2 W2
  go_wp2_with fail
  refine (cloneU32_any _ _ _ R _ rr3 (by omega)).mono ?_
  rintro e w4 ⟨r1, cr1, rfl, hr4, hb4⟩
  have rg4 := rg3.below hb4 (Nat.le_refl _)
  have rv4 := rv3.below hb4 (Nat.le_refl _)
  have rh4 := rh3.below hb4 (Nat.le_refl _)
  have rr4 := clone_in hr4
  have W4 := HxWalkA.hide (W3.out.trans (hb4.mono W3.out.size))
  clear hr4 hb4 rg3 rv3 rh3 rr3 W3
  go_wp2_with fail
  refine (from_any _ _ _ _ _ _ _ _ _ _ G V H R gen _ rg4 rv4 rh4 rr4 hn hr).mono ?_
  rintro e w5 ⟨rfl, hh5, ht5, hb5, hz5⟩
  obtain ⟨D, hD⟩ : ∃ D, w4.heap.size = D := ⟨_, rfl⟩
  rw [hD] at hh5 ht5 hb5 hz5
  have rg5 := rg4.below hb5 (by omega)
  have rv5 := rv4.below hb5 (by omega)
  have rh5 := rh4.below hb5 (by omega)
  have W5 := HxWalkA.hide (W4.out.trans (hb5.mono (by rw [← hD]; exact W4.out.size)))
  have hDw : w.heap.size ≤ D := by rw [← hD]; exact W4.out.size
  go_wp2_with fail
  obtain ⟨cap', hcap'⟩ : ∃ cap', cap' = if N ≤ l + r then l + r else N := ⟨_, rfl⟩
  refine (zzgrow_any (D + 1) D l (l + r) N gen (laid l G V H R) _ hh5 ht5 (by omega) hn (by omega) (by omega) HN P2 hg0 hg1 (fun i hi => by simp only [laid, if_pos hi]; exact HH.out i hi)
    (fun i hi => by
      simp only [laid]
      split
      · exact HG.out i (by assumption)
      · exact HR.out (i - l) (by omega)) cap' hcap').mono ?_
  rintro e w6 ⟨rfl, ⟨S', mv, hP6⟩, hM6⟩
  have hB56 := hM6.toBelow (B := D) (by omega) (Nat.le_refl _) (by omega)
  have hB46 := hb5.trans hB56
  have rg6 := rg4.below hB46 (by omega)
  have rv6 := rv4.below hB46 (by omega)
  have rh6 := rh4.below hB46 (by omega)
  have W6 := HxWalkA.hide (W5.out.trans (hB56.mono hDw))
  have hcapN : N ≤ cap' := by rw [hcap']; split <;> omega
  have hcapM : cap' ≤ 16384 := by rw [hcap']; split <;> omega
  have HC := HxWalkA.hide hcap'
  clear hcap' hM6 hB56 hB46 W5 rg5 rv5 rh5 rg4 rv4 rh4 rr4 W4 hh5 ht5 hb5 hz5 HR HN
  obtain ⟨g', hg'⟩ : ∃ g', nextG gen = g' := ⟨_, rfl⟩
  have hgp : 1 ≤ g' := by rw [← hg']; exact nextG_pos hg0
  have hgn : (g' == gen) = false := by rw [← hg']; simpa using nextG_ne gen
  have hgz : (g' == 0) = false := by simp; omega
  rw [hg'] at hP6
  clear hg'
  have HP6 := HxWalkA.hide hP6
  have hh6 := hP6.1
  clear hP6
  go_upto_if 115 with fail
  go_cut [13] (fun v wc => v = .int .i64 (N : Int) ∧ wc = w6)
  case first =>
    rcases hN5 with ⟨h, h'⟩ | ⟨h, h'⟩
    · have h5 : 2 * (l : Int) < 128 := by omega
      go_wp2
      go_meet
      case rel => exact ⟨by rw [h']; rfl, rfl⟩
    · have h5 : (128 : Int) ≤ 2 * (l : Int) := by omega
      go_wp2
      go_meet
      case rel => exact ⟨by rw [h']; rfl, rfl⟩
  case rest =>
    obtain ⟨rfl, hwc⟩ := hcut
    obtain rfl : w6 = wc := hwc.symm
    clear hwc hN5
    rename_i K0 hK0
    refine hK0 _ _ ?_
    exact mid25 g1 v1 h1 r1 l r cg1 cv1 ch1 cr1 N (D + 1) S' cap' G V H (laid l G V H R) gen g' mv w w6 (fun i hi => by simp only [laid, if_pos hi]) hn hr P2 hN2 hN3 hN4 hcapN hcapM hgn hgz HH.out HC rg6 rv6 rh6 W6 HP6 _ _ _ _ _ _ _ _ _ _ _ _ _ _ _ _ _ _ _ _ _ _ _ _ _ _ _ _ _ _ _ _ _ _ _ _ _ _ _ _ _ _ _ _ _ _ _ _ _ _ _ _ _ _ _ _ _ _ _ _ _ _ _ _ _ _ _ _ _ _ _ _ _ _ _ _ _ _ _ _ _ _ _ _ _ _ _ _ _ _ _ _ _ _ _ _ _ _ _ _ _ _ _ _ _ _ _ _ _ _ _ _ _ _ _ _ _ _ _ _ _ _ _ _ _ _ _ _ _ _ _ _ _ _ _ _ _ _ _ _ _ _ _ _ _ _ _ _ _ _ _ _ _ _ _ _ _ _ _ _ _ _ _ _ _ _ _ _ _ _ _ _ _ _ _ _ _ _ _ _ _ _ _ _ _ _ _ _ _ _ _ _ _ _ _ _ _ _ _ _ _ _ _ _ _ _ _ _ _ _ _ _ _ _ _ _ _ _ _ _ _ _ _ _ _ _ _ _ _ _ _ _ _ _ _ _ _ _ _ _ _ _ _ _ _ _ _ _ _ _ _ _ _ _ _ _ _ _ _ _ _ _

end Go.Proofs.Qxb6001121a.HxLaw
