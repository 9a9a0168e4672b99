/-
  THE LAW: FnGroupsOfSpec says true at every input.
-/
import Derived.Test.Qxb6601398aGrZZ
namespace Go.Proofs.Qxb6601398a.GrLaw
open Go.RowKit Go.Proofs.Qxb6601398a.Mem Go.Proofs.Qxb6601398a.GrBase Go.Proofs.Qxb6601398a.GrBytes Go.Proofs.Qxb6601398a.GrPairs Go.Proofs.Qxb6601398a.GrZZ

/-- what the law's loop knows -/
def LawW (w wr : World) (bt bw : Nat) (q1 : Option Addr) (n : Nat) (m : Bool) (A : Nat → ByteArray) : Prop :=
  RowB wr bt 9 (per m * n) (fun i => .string (gS m A i)) ∧ RowB wr bw 4 (per m * n) (fun i => .bool (gW m i)) ∧ RowS wr q1 n A ∧ Below w.heap.size w wr
theorem LawW.alike {w wr wb : World} {bt bw : Nat} {q1 : Option Addr} {n : Nat} {m : Bool} {A : Nat → ByteArray} (h : LawW w wr bt bw q1 n m A) (hh : wb.heap = wr.heap) (g1 : wb.os = wr.os) (g2 : wb.tape = wr.tape) (g3 : wb.output = wr.output) : LawW w wb bt bw q1 n m A := by
  obtain ⟨h1, h2, h3, h4⟩ := h
  refine ⟨h1.of_block (by rw [hh]), h2.of_block (by rw [hh]), fun hn => ?_, below_alike h4 hh g1 g2 g3⟩
  obtain ⟨b, o, e, hl, hc⟩ := h3 hn
  exact ⟨b, o, e, by rw [hh]; exact hl, fun i hi => (World.cell?_of_block (a := ⟨b, o + i, none⟩) (by rw [hh])).trans (hc i hi)⟩

set_option maxHeartbeats 4000000 in
set_option maxRecDepth 100000 in
theorem law_any (fig : ByteArray) (p1 : Option Addr) (n1 c1 : Nat) (A1 : Nat → ByteArray) (p2 : Option Addr) (n2 c2 : Nat) (A2 : Nat → ByteArray) (m : Bool) (p4 : Option Addr) (n4 c4 : Nat) (A4 : Nat → ByteArray) (w : World)
    (h1 : RowS w p1 n1 A1) (h2 : RowS w p2 n2 A2) (h4 : RowS w p4 n4 A4) (hs : fig.size ≤ 9223372036854775807) (hn1 : n1 ≤ 9223372036854775807) (hn2 : n2 ≤ 9223372036854775807) (hn4 : n4 ≤ 9223372036854775807) :
    Calls Try.prog 3 #[.string fig, .slice p1 n1 c1, .slice p2 n2 c2, .bool m, .slice p4 n4 c4] w fun e w' => e = .returned (.bool true) ∧ Below w.heap.size w w' := by
  go_enter Try.func3, Try.ntmps3
  go_wp2_with fail
  refine (bytes_any fig p1 n1 c1 A1 p2 n2 c2 A2 m p4 n4 c4 A4 w h1 h2 h4 hs hn1 hn2 hn4).mono ?_
  rintro e w' ⟨b, rfl, rfl⟩
  cases b with
  | false =>
    go_wp2
    go_ret
    exact ⟨rfl, Below.refl _ _⟩
  | true =>
  by_cases t0 : 1048576 < fig.size
  · go_wp2
    go_ret
    exact ⟨rfl, Below.refl _ _⟩
  go_wp2_with fail
  refine (size_any p1 n1 c1 A1 w h1 hn1).mono ?_
  rintro e w' ⟨s1, rfl, rfl, hs1, hz1⟩
  go_wp2_with fail
  refine (size_any p2 n2 c2 A2 w h2 hn2).mono ?_
  rintro e w' ⟨s2, rfl, rfl, hs2, hz2⟩
  go_wp2_with fail
  refine (size_any p4 n4 c4 A4 w h4 hn4).mono ?_
  rintro e w' ⟨s4, rfl, rfl, hs4, hz4⟩
  by_cases t1 : 1048576 < fig.size + s1 + s2 + s4
  · go_wp2
    go_ret
    exact ⟨rfl, Below.refl _ _⟩
  have k1 : n1 ≤ 65536 := hz1 (by omega)
  have k2 : n2 ≤ 65536 := hz2 (by omega)
  have k4 : n4 ≤ 65536 := hz4 (by omega)
  clear hz1 hz2 hz4 hn1 hn2 hn4
  go_wp2_with fail
  refine (copy_any p1 n1 c1 A1 w h1 (by omega)).mono ?_
  rintro e w1 ⟨q1, d1, rfl, r1, b1⟩
  have h2' := h2.below b1 (Nat.le_refl _)
  have h4' := h4.below b1 (Nat.le_refl _)
  clear h1 h2 h4
  go_wp2_with fail
  refine (copy_any p2 n2 c2 A2 w1 h2' (by omega)).mono ?_
  rintro e w2 ⟨q2, d2, rfl, r2, b2⟩
  have r1' := r1.below b2 (Nat.le_refl _)
  have h4 := h4'.below b2 (Nat.le_refl _)
  have B2 := hide (b1.trans (b2.mono b1.size))
  clear r1 h2' h4' b1 b2
  go_wp2_with fail
  refine (copy_any p4 n4 c4 A4 w2 h4 (by omega)).mono ?_
  rintro e w3 ⟨q4, d4, rfl, r4, b3⟩
  have r1 := r1'.below b3 (Nat.le_refl _)
  have r2' := r2.below b3 (Nat.le_refl _)
  have B3 := hide (B2.out.trans (b3.mono B2.out.size))
  clear r1' r2 h4 B2 b3
  go_wp2_with fail
  refine (zz_any fig q1 n1 d1 A1 q2 n2 d2 A2 m q4 n4 d4 A4 w3 (by omega) (by omega) (by omega) r1 r2' r4).mono ?_
  rintro e w4 ⟨bt, bw, rfl, z1, z2, z3⟩
  have L4 : Hid (LawW w w4 bt bw q1 n1 m A1) := ⟨z1, z2, r1.below z3 (Nat.le_refl _), B3.out.trans (z3.mono B3.out.size)⟩
  clear z1 z2 z3 r1 r2' r4 B3 hs1 hs2 hs4 t0 t1 hs
  cases m with
  | true =>
    have e1 : per true * n1 = n1 := by simp [per]
    rw [e1]
    go_wp2
    go_loopw [15] (fun i wr => ∃ k : Nat, k ≤ n1 ∧ i = .int .i64 k ∧ LawW w wr bt bw q1 n1 true A1) (fun i _ => n1 - (intOf i).toNat)
    case atStart => exact ⟨0, Nat.zero_le _, rfl, L4.out⟩
    case round =>
      clear L4
      obtain ⟨k, hk, rfl, hL⟩ := hrel
      by_cases hlk : k < n1
      · obtain ⟨b, o, e, hbl, hc⟩ := hL.2.2.1 (by omega)
        cases e
        have hcx := hc k hlk
        have hct : wr.cell? ⟨bt, k, none⟩ = some (.string (A1 k)) := (hL.1.cell (by omega)).trans (by simp [gS, per])
        have hcw : wr.cell? ⟨bw, k, none⟩ = some (.bool true) := (hL.2.1.cell (by omega)).trans (by simp [gW])
        have L2 := hide hL
        clear hL hc
        go_wp2_with fail
        go_quiet (fail)
        go_wp2
        exact ⟨⟨k + 1, by omega, by go_num, L2.out.alike rfl rfl rfl rfl⟩, by simp [intOf]; omega⟩
      · have L2 := hide hL
        clear hL
        go_wp2
        go_ret
        exact ⟨rfl, L2.out.2.2.2⟩
  | false =>
    have e1 : per false * n1 = 2 * n1 := by simp [per]
    rw [e1]
    go_wp2
    go_loopw [15] (fun i wr => ∃ k : Nat, k ≤ n1 ∧ i = .int .i64 k ∧ LawW w wr bt bw q1 n1 false A1) (fun i _ => n1 - (intOf i).toNat)
    case atStart => exact ⟨0, Nat.zero_le _, rfl, L4.out⟩
    case round =>
      clear L4
      obtain ⟨k, hk, rfl, hL⟩ := hrel
      by_cases hlk : k < n1
      · obtain ⟨b, o, e, hbl, hc⟩ := hL.2.2.1 (by omega)
        cases e
        have hcx := hc k hlk
        have hct : wr.cell? ⟨bt, 2 * k, none⟩ = some (.string (A1 k)) := (hL.1.cell (by omega)).trans (by simp [gS, per])
        have hcw : wr.cell? ⟨bw, 2 * k, none⟩ = some (.bool true) := (hL.2.1.cell (by omega)).trans (by simp [gW])
        have hct1 : wr.cell? ⟨bt, 2 * k + 1, none⟩ = some (.string (A1 k)) := (hL.1.cell (by omega)).trans (by simp only [gS, per]; rw [show (2 * k + 1) / (if false = true then 1 else 2) = k from by simp; omega])
        have hcw1 : wr.cell? ⟨bw, 2 * k + 1, none⟩ = some (.bool false) := (hL.2.1.cell (by omega)).trans (by simp [gW])
        have L2 := hide hL
        clear hL hc
        go_wp2_with fail
        go_quiet (fail)
        go_wp2_with fail
        go_quiet (fail)
        go_wp2
        exact ⟨⟨k + 1, by omega, by go_num, L2.out.alike rfl rfl rfl rfl⟩, by simp [intOf]; omega⟩
      · have L2 := hide hL
        clear hL
        go_wp2
        go_ret
        exact ⟨rfl, L2.out.2.2.2⟩

end Go.Proofs.Qxb6601398a.GrLaw
