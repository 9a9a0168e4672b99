/-
  THE WALK OF ZZGroupsOf: it builds the sum from copies of its arguments and gives groupsOf's groups as two rows.
-/
import Derived.Test.Qxb6601398aGrPairs
namespace Go.Proofs.Qxb6601398a.GrZZ
open Go.RowKit Go.Proofs.Qxb6601398a.Mem Go.Proofs.Qxb6601398a.GrBase Go.Proofs.Qxb6601398a.GrPairs

/-- the sum's block -/
def SumB (w : World) (b : Nat) (fig : ByteArray) (a1 : Option Addr) (n1 c1 : Nat) (a2 : Option Addr) (n2 c2 : Nat) (m : Bool) (a6 : Option Addr) (n6 c6 : Nat) : Prop :=
  w.heap[b]? = some (.cells #[.string fig, .slice a1 n1 c1, .slice a2 n2 c2, .slice none 0 0, .bool m, .pointer none, .slice a6 n6 c6, .slice none 0 0] 39 (0, 0))
section
variable {w : World} {b : Nat} {fig : ByteArray} {a1 : Option Addr} {n1 c1 : Nat} {a2 : Option Addr} {n2 c2 : Nat} {m : Bool} {a6 : Option Addr} {n6 c6 : Nat}
theorem SumB.at0 (h : SumB w b fig a1 n1 c1 a2 n2 c2 m a6 n6 c6) : w.cell? ⟨b, 0, none⟩ = some (.string fig) := by unfold SumB at h; simp [World.cell?, h]
theorem SumB.at1 (h : SumB w b fig a1 n1 c1 a2 n2 c2 m a6 n6 c6) : w.cell? ⟨b, 1, none⟩ = some (.slice a1 n1 c1) := by unfold SumB at h; simp [World.cell?, h]
theorem SumB.at2 (h : SumB w b fig a1 n1 c1 a2 n2 c2 m a6 n6 c6) : w.cell? ⟨b, 2, none⟩ = some (.slice a2 n2 c2) := by unfold SumB at h; simp [World.cell?, h]
theorem SumB.at3 (h : SumB w b fig a1 n1 c1 a2 n2 c2 m a6 n6 c6) : w.cell? ⟨b, 3, none⟩ = some (.slice none 0 0) := by unfold SumB at h; simp [World.cell?, h]
theorem SumB.at4 (h : SumB w b fig a1 n1 c1 a2 n2 c2 m a6 n6 c6) : w.cell? ⟨b, 4, none⟩ = some (.bool m) := by unfold SumB at h; simp [World.cell?, h]
theorem SumB.at5 (h : SumB w b fig a1 n1 c1 a2 n2 c2 m a6 n6 c6) : w.cell? ⟨b, 5, none⟩ = some (.pointer none) := by unfold SumB at h; simp [World.cell?, h]
theorem SumB.at6 (h : SumB w b fig a1 n1 c1 a2 n2 c2 m a6 n6 c6) : w.cell? ⟨b, 6, none⟩ = some (.slice a6 n6 c6) := by unfold SumB at h; simp [World.cell?, h]
theorem SumB.at7 (h : SumB w b fig a1 n1 c1 a2 n2 c2 m a6 n6 c6) : w.cell? ⟨b, 7, none⟩ = some (.slice none 0 0) := by unfold SumB at h; simp [World.cell?, h]
theorem SumB.lt (h : SumB w b fig a1 n1 c1 a2 n2 c2 m a6 n6 c6) : b < w.heap.size := (Array.getElem?_eq_some_iff.1 h).1
theorem SumB.free (h : SumB w b fig a1 n1 c1 a2 n2 c2 m a6 n6 c6) (i : Nat) : w.frozen? ⟨b, i, none⟩ = false := by unfold SumB at h; simp [World.frozen?, h]
theorem SumB.of_block {w' : World} (h : SumB w b fig a1 n1 c1 a2 n2 c2 m a6 n6 c6) (e : w'.heap[b]? = w.heap[b]?) : SumB w' b fig a1 n1 c1 a2 n2 c2 m a6 n6 c6 := e.trans h
theorem SumB.set1 (h : SumB w b fig a1 n1 c1 a2 n2 c2 m a6 n6 c6) (a' : Option Addr) (n' c' : Nat) : SumB (w.setCell ⟨b, 1, none⟩ (.slice a' n' c')) b fig a' n' c' a2 n2 c2 m a6 n6 c6 := by
  unfold SumB at *; simp [World.setCell, Array.getElem?_modify, h]
theorem SumB.set2 (h : SumB w b fig a1 n1 c1 a2 n2 c2 m a6 n6 c6) (a' : Option Addr) (n' c' : Nat) : SumB (w.setCell ⟨b, 2, none⟩ (.slice a' n' c')) b fig a1 n1 c1 a' n' c' m a6 n6 c6 := by
  unfold SumB at *; simp [World.setCell, Array.getElem?_modify, h]
theorem SumB.set6 (h : SumB w b fig a1 n1 c1 a2 n2 c2 m a6 n6 c6) (a' : Option Addr) (n' c' : Nat) : SumB (w.setCell ⟨b, 6, none⟩ (.slice a' n' c')) b fig a1 n1 c1 a2 n2 c2 m a' n' c' := by
  unfold SumB at *; simp [World.setCell, Array.getElem?_modify, h]
end

/-- what the marks hold after k rounds -/
def partB (k : Nat) (W : Nat → Bool) (j : Nat) : Value := if j < k then .bool (W j) else .bool false
theorem partB_step {w : World} {B n k : Nat} {e : TypeId} {W : Nat → Bool} (h : RowB w B e n (partB k W)) : RowB (w.setCell ⟨B, k, none⟩ (.bool (W k))) B e n (partB (k + 1) W) :=
  (h.set k (.bool (W k))).congr fun j _ => by
    simp only [partB]
    by_cases e : j = k
    · subst e; simp
    · rw [if_neg e]
      by_cases e' : j < k
      · rw [if_pos e', if_pos (by omega)]
      · rw [if_neg e', if_neg (by omega)]

/-- what ZZGroupsOf gives -/
def ZPost (w : World) (m : Bool) (n : Nat) (A : Nat → ByteArray) (e : Ending) (w' : World) : Prop :=
  ∃ bt bw, e = .returned (.tuple #[.slice (some ⟨bt, 0, none⟩) (per m * n) (per m * n), .slice (some ⟨bw, 0, none⟩) (per m * n) (per m * n)]) ∧ RowB w' bt 9 (per m * n) (fun i => .string (gS m A i)) ∧ RowB w' bw 4 (per m * n) (fun i => .bool (gW m i)) ∧ Below w.heap.size w w'

/-- what the last loop knows -/
def ZW (w wr : World) (bg bt bw n k : Nat) (m : Bool) (A : Nat → ByteArray) : Prop :=
  bg < bt ∧ bt < bw ∧ w.heap.size < bg ∧ RowB wr bt 9 (per m * n) (partS k (gS m A)) ∧ RowB wr bw 4 (per m * n) (partB k (gW m)) ∧ RowB wr bg 45 (2 * n * 2) (gf (per m * n) (gS m A) (gW m)) ∧ Below w.heap.size w wr

theorem per_le (m : Bool) (n : Nat) : per m * n ≤ 2 * n := by cases m <;> simp [per] <;> omega

theorem ZW.g0 {w wr : World} {bg bt bw n k : Nat} {m : Bool} {A : Nat → ByteArray} (h : ZW w wr bg bt bw n k m A) (hk : k < per m * n) : wr.cell? ⟨bg, k * 2, none⟩ = some (.string (gS m A k)) := by
  obtain ⟨_, _, _, _, _, h6, _⟩ := h
  have := per_le m n
  rw [h6.cell (by omega)]
  simp only [gf]
  rw [if_pos (by omega), if_pos (by omega), show k * 2 / 2 = k from by omega]
theorem ZW.g1 {w wr : World} {bg bt bw n k : Nat} {m : Bool} {A : Nat → ByteArray} (h : ZW w wr bg bt bw n k m A) (hk : k < per m * n) (v : Value) : (wr.setCell ⟨bt, k, none⟩ v).cell? ⟨bg, k * 2 + 1, none⟩ = some (.bool (gW m k)) := by
  obtain ⟨h1, _, _, _, _, h6, _⟩ := h
  have := per_le m n
  rw [(h6.other (a := ⟨bt, k, none⟩) (show bg ≠ bt by omega) v).cell (by omega)]
  simp only [gf]
  rw [if_pos (by omega), if_neg (by omega), show (k * 2 + 1) / 2 = k from by omega]
theorem ZW.step {w wr : World} {bg bt bw n k : Nat} {m : Bool} {A : Nat → ByteArray} (h : ZW w wr bg bt bw n k m A) :
    ZW w ((wr.setCell ⟨bt, k, none⟩ (.string (gS m A k))).setCell ⟨bw, k, none⟩ (.bool (gW m k))) bg bt bw n (k + 1) m A := by
  obtain ⟨h1, h2, h3, h4, h5, h6, h7⟩ := h
  exact ⟨h1, h2, h3, (partS_step h4).other (a := ⟨bw, k, none⟩) (show bt ≠ bw by omega) _, partB_step (h5.other (a := ⟨bt, k, none⟩) (show bw ≠ bt by omega) _), (h6.other (a := ⟨bt, k, none⟩) (show bg ≠ bt by omega) _).other (a := ⟨bw, k, none⟩) (show bg ≠ bw by omega) _,
    (h7.setCell (show w.heap.size ≤ bt by omega) _).setCell (show w.heap.size ≤ bw by omega) _⟩

theorem made_zw {w wc w1 w2 w3 : World} {n : Nat} {m : Bool} {A : Nat → ByteArray} (hlt : w.heap.size < wc.heap.size) (hb : Below w.heap.size w wc)
    (g1 : RowB w1 (wc.heap.size + 1) 45 (2 * n * 2) (gf (per m * n) (gS m A) (gW m))) (d1 : Below wc.heap.size wc w1)
    (g2 : RowB w2 w1.heap.size 9 (per m * n) (fun _ => .string ⟨#[]⟩)) (d2 : Below w1.heap.size w1 w2) (s2 : w2.heap.size = w1.heap.size + 1)
    (g3 : RowB w3 w2.heap.size 4 (per m * n) (fun _ => .bool false)) (d3 : Below w2.heap.size w2 w3) : ZW w w3 (wc.heap.size + 1) w1.heap.size w2.heap.size n 0 m A := by
  have h1 := g1.lt
  refine ⟨h1, by omega, by omega, (g2.below d3 g2.lt).congr fun j _ => ?_, g3.congr fun j _ => ?_, (g1.below d2 h1).below d3 (by omega), ((hb.trans (d1.mono (by omega))).trans (d2.mono (by omega))).trans (d3.mono (by omega))⟩
  · simp [partS]
  · simp [partB]

/-- the sum's types, copied above the sum's block -/
def TyS (wc : World) (B : Nat) (q : Option Addr) (n : Nat) (A : Nat → ByteArray) : Prop := 0 < n → ∃ b1, q = some ⟨b1, 0, none⟩ ∧ B < b1 ∧ RowB wc b1 40 n (fun i => .string (A i))
theorem TyS.rowS {wc : World} {B : Nat} {q : Option Addr} {n : Nat} {A : Nat → ByteArray} (h : TyS wc B q n A) : RowS wc q n A := fun hn => by
  obtain ⟨b1, rfl, _, hr⟩ := h hn
  exact RowS.of_rowB hr hn
theorem TyS.keep {wc wr : World} {B : Nat} {q : Option Addr} {n : Nat} {A : Nat → ByteArray} (h : TyS wc B q n A) (hk : ∀ j, B < j → j < wc.heap.size → wr.heap[j]? = wc.heap[j]?) : TyS wr B q n A := fun hn => by
  obtain ⟨b1, e, h1, hr⟩ := h hn
  exact ⟨b1, e, h1, hr.of_block (hk b1 h1 hr.lt)⟩

/-- what a copying loop knows: the sum, the row as far as it is copied, what lay before is kept -/
def LW (w wc wr : World) (fig : ByteArray) (a1 : Option Addr) (n1 c1 : Nat) (a2 : Option Addr) (n2 c2 : Nat) (m : Bool) (a6 : Option Addr) (n6 c6 : Nat) (e : TypeId) (n k : Nat) (A : Nat → ByteArray) : Prop :=
  w.heap.size < wc.heap.size ∧ SumB wr w.heap.size fig a1 n1 c1 a2 n2 c2 m a6 n6 c6 ∧ RowB wr wc.heap.size e n (partS k A) ∧ Below w.heap.size w wr ∧ ∀ j, w.heap.size < j → j < wc.heap.size → wr.heap[j]? = wc.heap[j]?
section
variable {w wc wr : World} {fig : ByteArray} {a1 : Option Addr} {n1 c1 : Nat} {a2 : Option Addr} {n2 c2 : Nat} {m : Bool} {a6 : Option Addr} {n6 c6 : Nat} {e : TypeId} {n k : Nat} {A : Nat → ByteArray}
theorem LW.step (h : LW w wc wr fig a1 n1 c1 a2 n2 c2 m a6 n6 c6 e n k A) : LW w wc (wr.setCell ⟨wc.heap.size, k, none⟩ (.string (A k))) fig a1 n1 c1 a2 n2 c2 m a6 n6 c6 e n (k + 1) A := by
  obtain ⟨h1, h2, h3, h4, h5⟩ := h
  exact ⟨h1, h2.of_block (Below.heap_setCell _ _ _ _ (show w.heap.size ≠ wc.heap.size by omega)), partS_step h3, h4.setCell (show w.heap.size ≤ wc.heap.size by omega) _, fun j hj hj2 => (Below.heap_setCell _ _ _ _ (show j ≠ wc.heap.size by omega)).trans (h5 j hj hj2)⟩
theorem LW.alike {wb : World} (h : LW w wc wr fig a1 n1 c1 a2 n2 c2 m a6 n6 c6 e n k A) (hh : wb.heap = wr.heap) (g1 : wb.os = wr.os) (g2 : wb.tape = wr.tape) (g3 : wb.output = wr.output) : LW w wc wb fig a1 n1 c1 a2 n2 c2 m a6 n6 c6 e n k A := by
  obtain ⟨h1, h2, h3, h4, h5⟩ := h
  exact ⟨h1, h2.of_block (by rw [hh]), h3.of_block (by rw [hh]), below_alike h4 hh g1 g2 g3, fun j hj hj2 => by rw [hh]; exact h5 j hj hj2⟩
theorem LW.start {w1 : World} {i : Nat} {v : Value} (hlt : w.heap.size < wc.heap.size) (hb : Below w.heap.size w wc) (hr : RowB w1 wc.heap.size e n (fun _ => .string ⟨#[]⟩)) (hb1 : Below wc.heap.size wc w1) (hS : SumB (w1.setCell ⟨w.heap.size, i, none⟩ v) w.heap.size fig a1 n1 c1 a2 n2 c2 m a6 n6 c6) :
    LW w wc (w1.setCell ⟨w.heap.size, i, none⟩ v) fig a1 n1 c1 a2 n2 c2 m a6 n6 c6 e n 0 A :=
  ⟨hlt, hS, (hr.other (a := ⟨w.heap.size, i, none⟩) (show wc.heap.size ≠ w.heap.size by omega) v).congr (fun j _ => by simp [partS]), (hb.trans (hb1.mono (by omega))).setCell (Nat.le_refl _) v, fun j hj hj2 => (Below.heap_setCell _ _ _ _ (show j ≠ w.heap.size by omega)).trans (hb1.block j hj2)⟩
theorem LW.done (h : LW w wc wr fig a1 n1 c1 a2 n2 c2 m a6 n6 c6 40 n n A) : TyS wr w.heap.size (some ⟨wc.heap.size, 0, none⟩) n A :=
  fun _ => ⟨wc.heap.size, rfl, h.1, h.2.2.1.congr fun j hj => by simp only [partS]; rw [if_pos hj]⟩
end
/-- where the roads meet behind the third 'if' -/
def Join22 (w wd : World) (fig : ByteArray) (q1 : Option Addr) (n1 d1 : Nat) (q2 : Option Addr) (m2 d2 : Nat) (m : Bool) (A : Nat → ByteArray) : Prop :=
  ∃ q6 m6 d6, SumB wd w.heap.size fig q1 n1 d1 q2 m2 d2 m q6 m6 d6 ∧ TyS wd w.heap.size q1 n1 A ∧ Below w.heap.size w wd
/-- behind the second -/
def Join16 (w wd : World) (fig : ByteArray) (q1 : Option Addr) (n1 d1 : Nat) (m : Bool) (A : Nat → ByteArray) : Prop :=
  ∃ q2 m2 d2, SumB wd w.heap.size fig q1 n1 d1 q2 m2 d2 m none 0 0 ∧ TyS wd w.heap.size q1 n1 A ∧ Below w.heap.size w wd
/-- behind the first -/
def Join10 (w wd : World) (fig : ByteArray) (n1 : Nat) (m : Bool) (A : Nat → ByteArray) : Prop :=
  ∃ q1 d1, SumB wd w.heap.size fig q1 n1 d1 none 0 0 m none 0 0 ∧ TyS wd w.heap.size q1 n1 A ∧ Below w.heap.size w wd

set_option maxHeartbeats 2000000 in
set_option maxRecDepth 100000 in
theorem tail22 (fig : ByteArray) (p1 : Option Addr) (n1 c1 : Nat) (A : Nat → ByteArray) (p2 : Option Addr) (n2 c2 : Nat) (_A2 : Nat → ByteArray) (m : Bool) (p4 : Option Addr) (n4 c4 : Nat) (_A4 : Nat → ByteArray) (w wc : World) (q1 : Option Addr) (d1 : Nat) (q2 : Option Addr) (m2 d2 : Nat) (q6 : Option Addr) (m6 d6 : Nat) (hn : n1 ≤ 1048576) (hS : SumB wc w.heap.size fig q1 n1 d1 q2 m2 d2 m q6 m6 d6) (hr : RowS wc q1 n1 A) (hb : Below w.heap.size w wc)
    (y5 y6 y7 y8 y9 y13 y14 y15 y16 y17 y18 y19 y20 y21 y22 y23 y24 y25 y26 y27 y28 y29 y30 y31 y32 y33 y34 y35 y36 y37 y38 y39 y40 y41 y42 y43 y44 y45 y46 y47 y48 y49 y50 y51 y52 y53 y54 y55 y56 y57 y58 y59 y60 y61 y62 y63 y64 y65 y66 y67 y68 y69 y70 y71 y72 y73 y74 y75 y76 y77 y78 y79 y80 y81 y82 y83 y84 y85 y86 y87 y88 y89 y90 y91 y92 y93 y94 y95 y96 y97 y98 y99 y100 y101 y102 y103 y104 y105 y106 y107 y108 y109 y110 y111 y112 y113 y114 y115 : Value) :
    Code.wp Try.prog (suffixAt 22 (Try.f10.body.getD .skip)) (bodyPost Try.prog Try.f10 fun e w' => ZPost w m n1 A e w') ⟨#[.string fig, .slice p1 n1 c1, .slice p2 n2 c2, .bool m, .slice p4 n4 c4, y5, y6, y7, y8, y9, .slice none 0 0, .slice none 0 0, .pointer (some ⟨w.heap.size, 0, none⟩), y13, y14, y15, y16, y17, y18, y19, y20, y21, y22, y23, y24, y25, y26, y27, y28, y29, y30, y31, y32, y33, y34, y35, y36, y37, y38, y39, y40, y41, y42, y43, y44, y45, y46, y47, y48, y49, y50, y51, y52, y53, y54, y55, y56, y57, y58, y59, y60, y61, y62, y63, y64, y65, y66, y67, y68, y69, y70, y71, y72, y73, y74, y75, y76, y77, y78, y79, y80, y81, y82, y83, y84, y85, y86, y87, y88, y89, y90, y91, y92, y93, y94, y95, y96, y97, y98, y99, y100, y101, y102, y103, y104, y105, y106, y107, y108, y109, y110, y111, y112, y113, y114, y115], []⟩ wc := by
  conv => arg 2; whnf
  have s0 := hS.at0
  have s1 := hS.at1
  have s2 := hS.at2
  have s3 := hS.at3
  have s4 := hS.at4
  have s5 := hS.at5
  have s6 := hS.at6
  have s7 := hS.at7
  have hlt := hS.lt
  have hL := per_le m n1
  have R1 := hide hr
  have B1 := hide hb
  clear hS hr hb
  have tokA : True := trivial
  go_wp2_with (first
    | (go_at_call 15; refine (groups_any _ _ _ _ A _ _ _ _ _ _ _ _ R1.out hn).mono ?_; rintro e w1 ⟨rfl, hrow, hbel⟩; have G1 := hide hrow; have D1 := hide hbel; have hl1 := hrow.lt; clear hrow hbel s0 s1 s2 s3 s4 s5 s6 s7)
    | (at_make; have _t := tokA; refine wp_mkRow _ rfl _ _ 22 rfl 9 (.string ⟨#[]⟩) 16 Try.underlying22 info9 rfl _ _ (per m * n1) rfl rfl (by omega) (by omega) (by omega) (by omega) ?_; intro w2 hrow hbel hsz; have G2 := hide hrow; have D2 := hide hbel; clear hrow hbel tokA _t)
    | (at_make; refine wp_mkRow _ rfl _ _ 26 rfl 4 (.bool false) 1 Try.underlying26 info4 rfl _ _ (per m * n1) rfl rfl (by omega) (by omega) (by omega) (by omega) ?_; intro w3 hrow hbel hsz3; have G3 := hide hrow; have D3 := hide hbel; clear hrow hbel))
  have Z : Hid (ZW w w3 (wc.heap.size + 1) w1.heap.size (w1.heap.size + 1) n1 0 m A) := by
    have := made_zw hlt B1.out G1.out D1.out G2.out D2.out hsz G3.out D3.out
    rw [hsz] at this
    exact this
  clear G1 D1 G2 D2 G3 D3 R1 B1
  have hbt : wc.heap.size + 1 < w1.heap.size := hl1
  clear hsz hsz3 hl1
  go_loopw [19] (fun i wr => ∃ k : Nat, k ≤ per m * n1 ∧ i = .int .i64 k ∧ ZW w wr (wc.heap.size + 1) w1.heap.size (w1.heap.size + 1) n1 k m A) (fun i _ => per m * n1 - (intOf i).toNat)
  case atStart => exact ⟨0, Nat.zero_le _, rfl, Z.out⟩
  case round =>
    clear Z
    obtain ⟨k, hk, rfl, hZ⟩ := hrel
    obtain ⟨L, hLe⟩ : ∃ L, per m * n1 = L := ⟨_, rfl⟩
    by_cases hlk : k < per m * n1
    · have x0 := hZ.g0 hlk
      have x1 := hZ.g1 hlk (.string (gS m A k))
      have x2 := hZ.2.2.2.1.cell hlk
      have x3 := hZ.2.2.2.1.free k
      have x4 := (hZ.2.2.2.2.1.other (a := ⟨w1.heap.size, k, none⟩) (show w1.heap.size + 1 ≠ w1.heap.size by omega) (.string (gS m A k))).cell hlk
      have x5 := (hZ.2.2.2.2.1.other (a := ⟨w1.heap.size, k, none⟩) (show w1.heap.size + 1 ≠ w1.heap.size by omega) (.string (gS m A k))).free k
      have Z2 := hide hZ.step
      clear hZ
      go_wp2
      go_roundw
      case rel => exact ⟨k + 1, by omega, by go_num, Z2.out⟩
      case measure => simp [intOf]; omega
    · have hke : k = per m * n1 := by omega
      have Z2 := hide hZ
      clear hZ
      go_wp2
      go_ret2
      obtain ⟨_, _, _, z4, z5, _, z7⟩ := Z2.out
      exact ⟨w1.heap.size, w1.heap.size + 1, rfl, z4.congr (fun j hj => by simp only [partS]; rw [if_pos (by omega)]), z5.congr (fun j hj => by simp only [partB]; rw [if_pos (by omega)]), z7⟩

theorem nil_zero {w : World} {n : Nat} {A : Nat → ByteArray} (h : RowS w none n A) : n = 0 := by
  by_cases hn : 0 < n
  · obtain ⟨b, o, e, _⟩ := h hn; cases e
  · omega

set_option maxHeartbeats 2000000 in
set_option maxRecDepth 100000 in
theorem tail16 (fig : ByteArray) (p1 : Option Addr) (n1 c1 : Nat) (A : Nat → ByteArray) (p2 : Option Addr) (n2 c2 : Nat) (A2 : Nat → ByteArray) (m : Bool) (p4 : Option Addr) (n4 c4 : Nat) (A4 : Nat → ByteArray) (w wc : World) (q1 : Option Addr) (d1 : Nat) (q2 : Option Addr) (m2 d2 : Nat) (hn : n1 ≤ 1048576) (_hn2 : n2 ≤ 1048576) (hn4 : n4 ≤ 1048576) (hS : SumB wc w.heap.size fig q1 n1 d1 q2 m2 d2 m none 0 0) (hr : TyS wc w.heap.size q1 n1 A) (h4 : RowS w p4 n4 A4) (hb : Below w.heap.size w wc)
    (y5 y6 y7 y8 y9 y13 y14 y15 y16 y17 y18 y19 y20 y21 y22 y23 y24 y25 y26 y27 y28 y29 y30 y31 y32 y33 y34 y35 y36 y37 y38 y39 y40 y41 y42 y43 y44 y45 y46 y47 y48 y49 y50 y51 y52 y53 y54 y55 y56 y57 y58 y59 y60 y61 y62 y63 y64 y65 y66 y67 y68 y69 y70 y71 y72 y73 y74 y75 y76 y77 y78 y79 y80 y81 y82 y83 y84 y85 y86 y87 y88 y89 y90 y91 y92 y93 y94 y95 y96 y97 y98 y99 y100 y101 y102 y103 y104 y105 y106 y107 y108 y109 y110 y111 y112 y113 y114 y115 : Value) :
    Code.wp Try.prog (suffixAt 16 (Try.f10.body.getD .skip)) (bodyPost Try.prog Try.f10 fun e w' => ZPost w m n1 A e w') ⟨#[.string fig, .slice p1 n1 c1, .slice p2 n2 c2, .bool m, .slice p4 n4 c4, y5, y6, y7, y8, y9, .slice none 0 0, .slice none 0 0, .pointer (some ⟨w.heap.size, 0, none⟩), y13, y14, y15, y16, y17, y18, y19, y20, y21, y22, y23, y24, y25, y26, y27, y28, y29, y30, y31, y32, y33, y34, y35, y36, y37, y38, y39, y40, y41, y42, y43, y44, y45, y46, y47, y48, y49, y50, y51, y52, y53, y54, y55, y56, y57, y58, y59, y60, y61, y62, y63, y64, y65, y66, y67, y68, y69, y70, y71, y72, y73, y74, y75, y76, y77, y78, y79, y80, y81, y82, y83, y84, y85, y86, y87, y88, y89, y90, y91, y92, y93, y94, y95, y96, y97, y98, y99, y100, y101, y102, y103, y104, y105, y106, y107, y108, y109, y110, y111, y112, y113, y114, y115], []⟩ wc := by
  conv => arg 2; whnf
  have q22 : ∀ (w : World) (a : Option Addr) (n c n' c' : Nat), (binOp .neq 22 (.slice a n c) (.slice none n' c')).run Try.prog w = .ok (.bool (!a.isNone)) w := fun w a n c n' c' => run_neq_slice_nil_any w _ _ a n c n' c' Try.underlying22
  have hlt := hS.lt
  go_upto_if 65 with fail
  go_cut [15] (fun _ wd => Join22 w wd fig q1 n1 d1 q2 m2 d2 m A)
  case first =>
    cases p4 with
    | none =>
      go_wp2
      go_meet
      case rel => exact ⟨_, _, _, hS, hr, hb⟩
    | some p =>
      have S0 := hide hS
      have B0 := hide hb
      go_wp2_with (at_make; refine wp_mkRow _ rfl _ _ 34 rfl 40 (.string ⟨#[]⟩) 16 Try.underlying34 info40 rfl _ _ n4 rfl rfl (by omega) (by omega) (by omega) (by omega) ?_; intro w1 hrow hbel hsz; have sc := (S0.out.of_block (hbel.block _ hlt)).at6; have sf := (S0.out.of_block (hbel.block _ hlt)).free 6; have L0 := hide (LW.start (A := A4) hlt B0.out hrow hbel ((S0.out.of_block (hbel.block _ hlt)).set6 (some ⟨wc.heap.size, 0, none⟩) n4 n4)); clear hrow hbel)
      go_loopw [15] (fun i wr => ∃ k : Nat, k ≤ n4 ∧ i = .int .i64 k ∧ LW w wc wr fig q1 n1 d1 q2 m2 d2 m (some ⟨wc.heap.size, 0, none⟩) n4 n4 40 n4 k A4) (fun i _ => n4 - (intOf i).toNat)
      case atStart => exact ⟨0, Nat.zero_le _, rfl, L0.out⟩
      case round =>
        clear L0 sc sf
        obtain ⟨k, hk, rfl, hL⟩ := hrel
        by_cases hlk : k < n4
        · obtain ⟨b, o, e, hbl, hc⟩ := h4 (by omega)
          cases e
          have hcx : wr.cell? ⟨b, o + k, none⟩ = some (.string (A4 k)) := (hL.2.2.2.1.cell (p := ⟨b, o + k, none⟩) hbl).trans (hc k hlk)
          have hcs := hL.2.1.at6
          have hcy := hL.2.2.1.cell hlk
          have hfy := hL.2.2.1.free k
          have L2 := hide hL.step
          clear hL hc
          go_wp2_with fail
          refine wp_region_quiet_tail 8 (by kernel_rfl) (by kernel_rfl) ?_
          simp only [List.take_succ_cons, List.take_zero, List.drop_succ_cons, List.drop_zero]
          repeat (go_big_quiet_step (fail))
          refine wpQuiet_nil ?_
          go_wp2
          go_roundw
          case rel =>
            exact ⟨k + 1, by omega, by go_num, L2.out.alike rfl rfl rfl rfl⟩
          case measure => simp [intOf]; omega
        · have hke : k = n4 := by omega
          have L2 := hide hL
          clear hL
          go_wp2
          go_meet
          case rel => exact ⟨_, _, _, L2.out.2.1, hr.keep L2.out.2.2.2.2, L2.out.2.2.2.1⟩
  case rest =>
    rename_i K0 hK0
    refine hK0 _ _ ?_
    obtain ⟨q6, m6, d6, hS2, hr2, hb2⟩ := hcut
    exact tail22 fig p1 n1 c1 A p2 n2 c2 A2 m p4 n4 c4 A4 w _ q1 d1 q2 m2 d2 q6 m6 d6 hn hS2 hr2.rowS hb2 _ _ _ _ _ _ _ _ _ _ _ _ _ _ _ _ _ _ _ _ _ _ _ _ _ _ _ _ _ _ _ _ _ _ _ _ _ _ _ _ _ _ _ _ _ _ _ _ _ _ _ _ _ _ _ _ _ _ _ _ _ _ _ _ _ _ _ _ _ _ _ _ _ _ _ _ _ _ _ _ _ _ _ _ _ _ _ _ _ _ _ _ _ _ _ _ _ _ _ _ _ _ _ _ _ _ _ _

set_option maxHeartbeats 2000000 in
set_option maxRecDepth 100000 in
theorem tail10 (fig : ByteArray) (p1 : Option Addr) (n1 c1 : Nat) (A : Nat → ByteArray) (p2 : Option Addr) (n2 c2 : Nat) (A2 : Nat → ByteArray) (m : Bool) (p4 : Option Addr) (n4 c4 : Nat) (A4 : Nat → ByteArray) (w wc : World) (q1 : Option Addr) (d1 : Nat) (hn : n1 ≤ 1048576) (hn2 : n2 ≤ 1048576) (hn4 : n4 ≤ 1048576) (hS : SumB wc w.heap.size fig q1 n1 d1 none 0 0 m none 0 0) (hr : TyS wc w.heap.size q1 n1 A) (h2 : RowS w p2 n2 A2) (h4 : RowS w p4 n4 A4) (hb : Below w.heap.size w wc)
    (y5 y6 y7 y8 y9 y13 y14 y15 y16 y17 y18 y19 y20 y21 y22 y23 y24 y25 y26 y27 y28 y29 y30 y31 y32 y33 y34 y35 y36 y37 y38 y39 y40 y41 y42 y43 y44 y45 y46 y47 y48 y49 y50 y51 y52 y53 y54 y55 y56 y57 y58 y59 y60 y61 y62 y63 y64 y65 y66 y67 y68 y69 y70 y71 y72 y73 y74 y75 y76 y77 y78 y79 y80 y81 y82 y83 y84 y85 y86 y87 y88 y89 y90 y91 y92 y93 y94 y95 y96 y97 y98 y99 y100 y101 y102 y103 y104 y105 y106 y107 y108 y109 y110 y111 y112 y113 y114 y115 : Value) :
    Code.wp Try.prog (suffixAt 10 (Try.f10.body.getD .skip)) (bodyPost Try.prog Try.f10 fun e w' => ZPost w m n1 A e w') ⟨#[.string fig, .slice p1 n1 c1, .slice p2 n2 c2, .bool m, .slice p4 n4 c4, y5, y6, y7, y8, y9, .slice none 0 0, .slice none 0 0, .pointer (some ⟨w.heap.size, 0, none⟩), y13, y14, y15, y16, y17, y18, y19, y20, y21, y22, y23, y24, y25, y26, y27, y28, y29, y30, y31, y32, y33, y34, y35, y36, y37, y38, y39, y40, y41, y42, y43, y44, y45, y46, y47, y48, y49, y50, y51, y52, y53, y54, y55, y56, y57, y58, y59, y60, y61, y62, y63, y64, y65, y66, y67, y68, y69, y70, y71, y72, y73, y74, y75, y76, y77, y78, y79, y80, y81, y82, y83, y84, y85, y86, y87, y88, y89, y90, y91, y92, y93, y94, y95, y96, y97, y98, y99, y100, y101, y102, y103, y104, y105, y106, y107, y108, y109, y110, y111, y112, y113, y114, y115], []⟩ wc := by
  conv => arg 2; whnf
  have q22 : ∀ (w : World) (a : Option Addr) (n c n' c' : Nat), (binOp .neq 22 (.slice a n c) (.slice none n' c')).run Try.prog w = .ok (.bool (!a.isNone)) w := fun w a n c n' c' => run_neq_slice_nil_any w _ _ a n c n' c' Try.underlying22
  have hlt := hS.lt
  go_upto_if 45 with fail
  go_cut [14] (fun _ wd => Join16 w wd fig q1 n1 d1 m A)
  case first =>
    cases p2 with
    | none =>
      go_wp2
      go_meet
      case rel => exact ⟨_, _, _, hS, hr, hb⟩
    | some p =>
      have S0 := hide hS
      have B0 := hide hb
      go_wp2_with (at_make; refine wp_mkRow _ rfl _ _ 35 rfl 41 (.string ⟨#[]⟩) 16 Try.underlying35 info41 rfl _ _ n2 rfl rfl (by omega) (by omega) (by omega) (by omega) ?_; intro w1 hrow hbel hsz; have sc := (S0.out.of_block (hbel.block _ hlt)).at2; have sf := (S0.out.of_block (hbel.block _ hlt)).free 2; have L0 := hide (LW.start (A := A2) hlt B0.out hrow hbel ((S0.out.of_block (hbel.block _ hlt)).set2 (some ⟨wc.heap.size, 0, none⟩) n2 n2)); clear hrow hbel)
      go_loopw [14] (fun i wr => ∃ k : Nat, k ≤ n2 ∧ i = .int .i64 k ∧ LW w wc wr fig q1 n1 d1 (some ⟨wc.heap.size, 0, none⟩) n2 n2 m none 0 0 41 n2 k A2) (fun i _ => n2 - (intOf i).toNat)
      case atStart => exact ⟨0, Nat.zero_le _, rfl, L0.out⟩
      case round =>
        clear L0 sc sf
        obtain ⟨k, hk, rfl, hL⟩ := hrel
        by_cases hlk : k < n2
        · obtain ⟨b, o, e, hbl, hc⟩ := h2 (by omega)
          cases e
          have hcx : wr.cell? ⟨b, o + k, none⟩ = some (.string (A2 k)) := (hL.2.2.2.1.cell (p := ⟨b, o + k, none⟩) hbl).trans (hc k hlk)
          have hcs := hL.2.1.at2
          have hcy := hL.2.2.1.cell hlk
          have hfy := hL.2.2.1.free k
          have L2 := hide hL.step
          clear hL hc
          go_wp2_with fail
          refine wp_region_quiet_tail 8 (by kernel_rfl) (by kernel_rfl) ?_
          simp only [List.take_succ_cons, List.take_zero, List.drop_succ_cons, List.drop_zero]
          repeat (go_big_quiet_step (fail))
          refine wpQuiet_nil ?_
          go_wp2
          go_roundw
          case rel =>
            exact ⟨k + 1, by omega, by go_num, L2.out.alike rfl rfl rfl rfl⟩
          case measure => simp [intOf]; omega
        · have hke : k = n2 := by omega
          have L2 := hide hL
          clear hL
          go_wp2
          go_meet
          case rel => exact ⟨_, _, _, L2.out.2.1, hr.keep L2.out.2.2.2.2, L2.out.2.2.2.1⟩
  case rest =>
    rename_i K0 hK0
    refine hK0 _ _ ?_
    obtain ⟨q2, m2, d2, hS2, hr2, hb2⟩ := hcut
    exact tail16 fig p1 n1 c1 A p2 n2 c2 A2 m p4 n4 c4 A4 w _ q1 d1 q2 m2 d2 hn hn2 hn4 hS2 hr2 h4 hb2 _ _ _ _ _ _ _ _ _ _ _ _ _ _ _ _ _ _ _ _ _ _ _ _ _ _ _ _ _ _ _ _ _ _ _ _ _ _ _ _ _ _ _ _ _ _ _ _ _ _ _ _ _ _ _ _ _ _ _ _ _ _ _ _ _ _ _ _ _ _ _ _ _ _ _ _ _ _ _ _ _ _ _ _ _ _ _ _ _ _ _ _ _ _ _ _ _ _ _ _ _ _ _ _ _ _ _ _

set_option maxHeartbeats 2000000 in
set_option maxRecDepth 100000 in
theorem zz_any (fig : ByteArray) (p1 : Option Addr) (n1 c1 : Nat) (A : Nat → ByteArray) (p2 : Option Addr) (n2 c2 : Nat) (A2 : Nat → ByteArray) (m : Bool) (p4 : Option Addr) (n4 c4 : Nat) (A4 : Nat → ByteArray) (w : World)
    (hn : n1 ≤ 1048576) (hn2 : n2 ≤ 1048576) (hn4 : n4 ≤ 1048576) (h1 : RowS w p1 n1 A) (h2 : RowS w p2 n2 A2) (h4 : RowS w p4 n4 A4) :
    Calls Try.prog 10 #[.string fig, .slice p1 n1 c1, .slice p2 n2 c2, .bool m, .slice p4 n4 c4] w fun e w' => ZPost w m n1 A e w' := by
  have q22 : ∀ (w : World) (a : Option Addr) (n c n' c' : Nat), (binOp .neq 22 (.slice a n c) (.slice none n' c')).run Try.prog w = .ok (.bool (!a.isNone)) w := fun w a n c n' c' => run_neq_slice_nil_any w _ _ a n c n' c' Try.underlying22
  go_enter Try.func10, Try.ntmps10
  go_upto_if 25 with fail
  generalize hwc : w.alloc (.cells #[.string fig, .slice none 0 0, .slice none 0 0, .slice none 0 0, .bool m, .pointer none, .slice none 0 0, .slice none 0 0] 39) = wz
  have hS : SumB wz w.heap.size fig none 0 0 none 0 0 m none 0 0 := by rw [← hwc]; exact heap_alloc_new w _
  have hb : Below w.heap.size w wz := by rw [← hwc]; exact (Below.refl _ _).alloc (Nat.le_refl _) _
  clear hwc
  have hlt := hS.lt
  go_cut [13] (fun _ wd => Join10 w wd fig n1 m A)
  case first =>
    cases p1 with
    | none =>
      go_wp2
      go_meet
      case rel => exact ⟨none, 0, by rw [nil_zero h1]; exact hS, fun h => absurd h (by rw [nil_zero h1]; omega), hb⟩
    | some p =>
      have S0 := hide hS
      have B0 := hide hb
      go_wp2_with (at_make; refine wp_mkRow _ rfl _ _ 34 rfl 40 (.string ⟨#[]⟩) 16 Try.underlying34 info40 rfl _ _ n1 rfl rfl (by omega) (by omega) (by omega) (by omega) ?_; intro w1 hrow hbel hsz; have sc := (S0.out.of_block (hbel.block _ hlt)).at1; have sf := (S0.out.of_block (hbel.block _ hlt)).free 1; have L0 := hide (LW.start (A := A) hlt B0.out hrow hbel ((S0.out.of_block (hbel.block _ hlt)).set1 (some ⟨wz.heap.size, 0, none⟩) n1 n1)); clear hrow hbel)
      go_loopw [13] (fun i wr => ∃ k : Nat, k ≤ n1 ∧ i = .int .i64 k ∧ LW w wz wr fig (some ⟨wz.heap.size, 0, none⟩) n1 n1 none 0 0 m none 0 0 40 n1 k A) (fun i _ => n1 - (intOf i).toNat)
      case atStart => exact ⟨0, Nat.zero_le _, rfl, L0.out⟩
      case round =>
        clear L0 sc sf
        obtain ⟨k, hk, rfl, hL⟩ := hrel
        by_cases hlk : k < n1
        · obtain ⟨b, o, e, hbl, hc⟩ := h1 (by omega)
          cases e
          have hcx : wr.cell? ⟨b, o + k, none⟩ = some (.string (A k)) := (hL.2.2.2.1.cell (p := ⟨b, o + k, none⟩) hbl).trans (hc k hlk)
          have hcs := hL.2.1.at1
          have hcy := hL.2.2.1.cell hlk
          have hfy := hL.2.2.1.free k
          have L2 := hide hL.step
          clear hL hc
          go_wp2_with fail
          refine wp_region_quiet_tail 8 (by kernel_rfl) (by kernel_rfl) ?_
          simp only [List.take_succ_cons, List.take_zero, List.drop_succ_cons, List.drop_zero]
          repeat (go_big_quiet_step (fail))
          refine wpQuiet_nil ?_
          go_wp2
          go_roundw
          case rel =>
            exact ⟨k + 1, by omega, by go_num, L2.out.alike rfl rfl rfl rfl⟩
          case measure => simp [intOf]; omega
        · have hke : k = n1 := by omega
          have L2 := hide hL
          clear hL
          go_wp2
          go_meet
          case rel => subst hke; exact ⟨_, _, L2.out.2.1, L2.out.done, L2.out.2.2.2.1⟩
  case rest =>
    rename_i K0 hK0
    refine hK0 _ _ ?_
    obtain ⟨q1, d1, hS2, hr2, hb2⟩ := hcut
    exact tail10 fig p1 n1 c1 A p2 n2 c2 A2 m p4 n4 c4 A4 w _ q1 d1 hn hn2 hn4 hS2 hr2 h2 h4 hb2 _ _ _ _ _ _ _ _ _ _ _ _ _ _ _ _ _ _ _ _ _ _ _ _ _ _ _ _ _ _ _ _ _ _ _ _ _ _ _ _ _ _ _ _ _ _ _ _ _ _ _ _ _ _ _ _ _ _ _ _ _ _ _ _ _ _ _ _ _ _ _ _ _ _ _ _ _ _ _ _ _ _ _ _ _ _ _ _ _ _ _ _ _ _ _ _ _ _ _ _ _ _ _ _ _ _ _ _

end Go.Proofs.Qxb6601398a.GrZZ
