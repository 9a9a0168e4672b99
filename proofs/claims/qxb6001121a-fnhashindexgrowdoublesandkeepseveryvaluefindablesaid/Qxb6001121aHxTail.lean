/-
  THE LAW's WALK, its second half: from 'newGen := ..' on.
-/
import Derived.Test.Qxb6001121aHxBase
import Derived.Deep.DeepCutAuto
namespace Go.Proofs.Qxb6001121a.HxTail
open Go.RowKit Go.Proofs.Qxb6001121a.Mem Go.Proofs.Qxb6001121a.EdBase Go.Proofs.Qxb6001121a.HxMem Go.Proofs.Qxb6001121a.HxBits Go.Proofs.Qxb6001121a.HxPlain Go.Proofs.Qxb6001121a.HxWalkA Go.Proofs.Qxb6001121a.HxGrow Go.Proofs.Qxb6001121a.HxRoom Go.Proofs.Qxb6001121a.HxBase Go.Proofs.Qxb6001121a.HxSortPlain

theorem items_mono (g : Int) (T : Nat → Int × Int × Int) {k : Nat} : ∀ {k'}, k ≤ k' → (items g T k).length ≤ (items g T k').length := by
  intro k'
  induction k' with
  | zero => intro h; obtain rfl : k = 0 := by omega
            exact Nat.le_refl _
  | succ m ih =>
    intro h
    by_cases e : k = m + 1
    · subst e; exact Nat.le_refl _
    · have := ih (by omega)
      rw [items_succ, List.length_append]; omega

theorem clone_in {w' : World} {k : IntKind} {e : TypeId} {n b : Nat} {ao' : Option Addr} {A : Nat → Int} (h : 0 < n → ao' = some ⟨b, 0, none⟩ ∧ RowB w' b e n (fun i => .int k (A i))) : RowIn w' k ao' n A := fun hn => by
  obtain ⟨rfl, hr⟩ := h hn
  exact RowIn.of_rowB hr hn

/-- the pairs f as they grow -/
def push (f : Nat → Int × Int) (k : Nat) (p : Int × Int) : Nat → Int × Int := fun i => if i = k then p else f i
theorem row_push (f : Nat → Int × Int) (k : Nat) (p : Int × Int) : row (push f k p) (k + 1) = row f k ++ [p] := by
  simp only [row]
  rw [row_congr (f := push f k p) (g := f) (fun i hi => by simp [push, show i ≠ k from by omega])]
  simp [push]
/-- the pairs that are gathered behind world w6 -/
def Two8 (w6 wr : World) (l : Nat) (f : Nat → Int × Int) : Prop := HxSort.Two wr w6.heap.size (w6.heap.size + 1) l f ∧ Below w6.heap.size w6 wr ∧ w6.heap.size + 2 ≤ wr.heap.size

/-- 'append(xs, x)' within the capacity, in a world of which this alone is told -/
theorem wp_app {P : Program} (w : World) {ops : Array Oper} {rest : List Oper} {o : Oper} {a : Act} {Q : Exit → Act → World → Prop}
    (hg : o.guard = none) (s x : Operand) (t : TypeId) (hop : o.op = Op.call { callee := Callee.builtin Builtin.append, args := #[s, x], argTypes := #[t, t] }) (e : TypeId) (z : Value) (bytes : Nat) (ht : P.underlying t = some (.slice e))
    (hinfo : (P.info? e).map (fun i => (i.zero, i.size, i.bytes)) = some (some z, 1, bytes)) (b k cap : Nat) (f : Nat → Value) (hs : a.eval s = .slice (some ⟨b, 0, none⟩) k cap) (hrow : RowB w b e cap f) (hk : k < cap)
    (ad c : Nat) (v : Value) (hx : a.eval x = .slice (some ⟨ad, 0, none⟩) 1 c) (hv : w.cell? ⟨ad, 0, none⟩ = some v) (h1 : v.oneCell' = true)
    (hK : ∀ w', RowB w' b e cap (fun j => if j = k then v else f j) → w.grownBy w' (some b) → w'.heap.size = w.heap.size → wpList P ops Q rest (a.put o.dst (.slice (some ⟨b, 0, none⟩) (k + 1) cap)) w') :
    wpList P ops Q (o :: rest) a w :=
  wp_appFit w hg s x t hop e z bytes ht hinfo b k cap f hs hrow hk ad c v hx hv h1
    (hK _ (hrow.set k v) ⟨rfl, rfl, rfl, by simp [World.setCell], fun j _ hj => Below.heap_setCell _ _ _ _ (fun e => hj (by rw [e]))⟩ (by simp [World.setCell]))

theorem app_keep {wr wa : World} {b : Nat} (o : Obj) (h : (wr.alloc o).grownBy wa (some b)) (j : Nat) (hj : j < wr.heap.size) (hne : j ≠ b) : wa.heap[j]? = wr.heap[j]? := by
  rw [h.block j (by simp; omega) (by simpa using hne)]
  exact Below.heap_alloc _ _ _ hj

theorem two8_push {w6 wr wa wb : World} {l k : Nat} {f : Nat → Int × Int} (h : Two8 w6 wr l f) (p : Int × Int) (o1 o2 : Obj)
    (ra : RowB wa w6.heap.size 35 l (fun j => if j = k then .int .u64 p.1 else .int .u64 (f j).1)) (ga : (wr.alloc o1).grownBy wa (some w6.heap.size)) (sa : wa.heap.size = (wr.alloc o1).heap.size)
    (rb : RowB wb (w6.heap.size + 1) 3 l (fun j => if j = k then .int .i64 p.2 else .int .i64 (f j).2)) (gb : (wa.alloc o2).grownBy wb (some (w6.heap.size + 1))) (sb : wb.heap.size = (wa.alloc o2).heap.size) : Two8 w6 wb l (push f k p) := by
  obtain ⟨h1, h2, h3⟩ := h
  have sa' : wa.heap.size = wr.heap.size + 1 := by rw [sa]; simp
  have sb' : wb.heap.size = wa.heap.size + 1 := by rw [sb]; simp
  refine ⟨⟨(ra.of_block (app_keep o2 gb _ (by omega) (by omega))).congr fun j _ => ?_, rb.congr fun j _ => ?_⟩, ⟨gb.os.trans (ga.os.trans h2.os), gb.tape.trans (ga.tape.trans h2.tape), gb.output.trans (ga.output.trans h2.output), by omega, fun j hj => ?_⟩, by omega⟩
  · unfold push
    by_cases e : j = k
    · rw [if_pos e, if_pos e]
    · rw [if_neg e, if_neg e]
  · unfold push
    by_cases e : j = k
    · rw [if_pos e, if_pos e]
    · rw [if_neg e, if_neg e]
  · rw [app_keep o2 gb j (by omega) (by omega), app_keep o1 ga j (by omega) (by omega)]
    exact h2.block j hj

theorem two8_below {w6 wr wa : World} {l : Nat} {f : Nat → Int × Int} (h : Two8 w6 wr l f) (hb : Below wr.heap.size wr wa) : Two8 w6 wa l f := by
  obtain ⟨h1, h2, h3⟩ := h
  exact ⟨⟨h1.1.below hb h1.1.lt, h1.2.below hb h1.2.lt⟩, h2.trans (hb.mono h2.size), Nat.le_trans h3 hb.size⟩

theorem items_has {g : Int} {T : Nat → Int × Int × Int} {p k : Nat} (hp : p < k) (hu : (T p).1 = g) : ((T p).2.2, (T p).2.1) ∈ items g T k := by
  induction k with
  | zero => omega
  | succ k ih =>
    rw [items_succ]
    by_cases e : p = k
    · subst e; rw [if_pos hu]; simp
    · exact List.mem_append_left _ (ih (by omega))

/-- which region a statement begins with -/
def headRegion : Code → Nat
  | .region k _ _ => k
  | .seq a _ => headRegion a
  | .block _ c => headRegion c
  | .loop c => headRegion c
  | _ => 0
/-- what stands from region n on -/
def suffixAt (n : Nat) : Code → Code
  | .seq a b => if headRegion a = n then .seq a b else suffixAt n b
  | c => c

set_option maxRecDepth 1000000 in
set_option maxHeartbeats 8000000 in
theorem tail33 (g1 v1 h1 r1 : Option Addr) (l r cg1 cv1 ch1 cr1 N hp S' cap' : Nat) (G V H : Nat → Int) (T : Nat → Int × Int × Int) (gen g' : Int) (mv : Value) (w w6 : World)
    (hT : ∀ i, i < l → T i = (G i, V i, H i)) (hn : l ≤ 4096) (P2 : HxBits.Pow2 N) (hN2 : N ≤ 8192) (hN3 : 2 * l ≤ N) (hN4 : 128 ≤ N) (hcapN : N ≤ cap') (hcapM : cap' ≤ 16384) (hgn : (g' == gen) = false) (hgz : (g' == 0) = false)
    (hHash : ∀ i, i < l → 0 ≤ H i ∧ H i < 18446744073709551616)
    (rg6 : RowIn w6 .u32 g1 l G) (rv6 : RowIn w6 .i64 v1 l V) (rh6 : RowIn w6 .u64 h1 l H) (W6 : Hid (Below w.heap.size w w6)) (HP6 : Hid (Placing w6 hp S' N cap' g' mv (items gen T l)))
    (y5 y6 y7 y8 y9 y10 y15 y16 y17 y18 y19 y20 y21 y22 y23 y24 y25 y26 y27 y28 y29 y30 y31 y32 y33 y34 y35 y36 y37 y38 y39 y40 y41 y42 y43 y44 y45 y46 y47 y48 y49 y50 y51 y52 y53 y54 y55 y56 y57 y58 y59 y60 y61 y62 y63 y64 y65 y66 y67 y68 y69 y70 y71 y72 y73 y74 y75 y76 y77 y78 y79 y80 y81 y82 y83 y84 y85 y86 y87 y88 y89 y90 y91 y92 y93 y94 y95 y96 y97 y98 y99 y100 y101 y102 y103 y104 y105 y106 y107 y108 y109 y110 y111 y112 y113 y114 y115 y116 y117 y118 y119 y120 y121 y122 y123 y124 y125 y126 y127 y128 y129 y130 y131 y132 y133 y134 y135 y136 y137 y138 y139 y140 y141 y142 y143 y144 y145 y146 y147 y148 y149 y150 y151 y152 y153 y154 y155 y156 y157 y158 y159 y160 y161 y162 y163 y164 y165 y166 y167 y168 y169 y170 y171 y172 y173 y174 y175 y176 y177 y178 y179 y180 y181 y182 y183 y184 y185 y186 y187 y188 y189 y190 y191 y192 y193 y194 y195 y196 y197 y198 y199 y200 y201 y202 y203 y204 y205 y206 y207 y208 y209 y210 y211 y212 y213 y214 y215 y216 y217 y218 y219 y220 y221 y222 y223 y224 y225 y226 y227 y228 y229 y230 y231 y232 y233 y234 y235 y236 y237 y238 y239 y240 y241 y242 y243 y244 y245 y246 y247 y248 y249 y250 y251 y252 y253 y254 y255 y256 y257 y258 y259 y260 y261 y262 y263 y264 y265 y266 y267 y268 y269 : Value) :
    Code.wp Try.prog (suffixAt 33 (Try.f3.body.getD .skip)) (bodyPost Try.prog Try.f3 fun e w' => e = .returned (.bool true) ∧ Below w.heap.size w w') ⟨#[.slice g1 l cg1, .slice v1 l cv1, .slice h1 l ch1, .slice r1 r cr1, .int .u32 gen, y5, y6, y7, y8, y9, y10, .int .i64 (l : Int), .pointer (some ⟨hp, 0, none⟩), .int .i64 (N : Int), .int .i64 ((l : Int) + (r : Int)), y15, y16, y17, y18, y19, y20, y21, y22, y23, y24, y25, y26, y27, y28, y29, y30, y31, y32, y33, y34, y35, y36, y37, y38, y39, y40, y41, y42, y43, y44, y45, y46, y47, y48, y49, y50, y51, y52, y53, y54, y55, y56, y57, y58, y59, y60, y61, y62, y63, y64, y65, y66, y67, y68, y69, y70, y71, y72, y73, y74, y75, y76, y77, y78, y79, y80, y81, y82, y83, y84, y85, y86, y87, y88, y89, y90, y91, y92, y93, y94, y95, y96, y97, y98, y99, y100, y101, y102, y103, y104, y105, y106, y107, y108, y109, y110, y111, y112, y113, y114, y115, y116, y117, y118, y119, y120, y121, y122, y123, y124, y125, y126, y127, y128, y129, y130, y131, y132, y133, y134, y135, y136, y137, y138, y139, y140, y141, y142, y143, y144, y145, y146, y147, y148, y149, y150, y151, y152, y153, y154, y155, y156, y157, y158, y159, y160, y161, y162, y163, y164, y165, y166, y167, y168, y169, y170, y171, y172, y173, y174, y175, y176, y177, y178, y179, y180, y181, y182, y183, y184, y185, y186, y187, y188, y189, y190, y191, y192, y193, y194, y195, y196, y197, y198, y199, y200, y201, y202, y203, y204, y205, y206, y207, y208, y209, y210, y211, y212, y213, y214, y215, y216, y217, y218, y219, y220, y221, y222, y223, y224, y225, y226, y227, y228, y229, y230, y231, y232, y233, y234, y235, y236, y237, y238, y239, y240, y241, y242, y243, y244, y245, y246, y247, y248, y249, y250, y251, y252, y253, y254, y255, y256, y257, y258, y259, y260, y261, y262, y263, y264, y265, y266, y267, y268, y269], []⟩ w6 := by
  conv => arg 2; whnf
  have hh6 := HP6.out.1
  have HT := HxWalkA.hide hT
  have HHs := HxWalkA.hide hHash
  clear hT hHash
  go_wp2_with fail
  refine (gen_any _ _ _ _ _ _ _ hh6).mono ?_
  rintro e w' ⟨rfl, hw'⟩
  obtain rfl : w6 = w' := hw'.symm
  clear hw'
  have tok1 : True := trivial
  go_wp2_with (first | (at_make; have _t := tok1; refine wp_mkCap _ rfl _ _ 24 rfl 35 (.int .u64 0) 8 Try.underlying24 info35 rfl _ l rfl rfl (by omega) (by omega) (by omega) ?_; intro w7 hr7 hb7 hs7; clear tok1 _t) | (at_make; refine wp_mkCap _ rfl _ _ 23 rfl 3 (.int .i64 0) 8 Try.underlying23 info3 rfl _ l rfl rfl (by omega) (by omega) (by omega) ?_; rw [hs7]; intro w8 hr8 hb8 hs8))
  have F8 : Hid (Two8 w6 w8 l (fun _ => (0, 0))) := ⟨⟨hr7.below hb8 (by omega), hr8⟩, hb7.trans (hb8.mono (by omega)), by omega⟩
  clear hr7 hb7 hs7 hr8 hb8 hs8
  go_loopw [16, 17, 18] (fun bh bv i wr => ∃ (i0 k : Nat) (f : Nat → Int × Int), i0 ≤ l ∧ bh = .slice (some ⟨w6.heap.size, 0, none⟩) k l ∧ bv = .slice (some ⟨w6.heap.size + 1, 0, none⟩) k l ∧ i = .int .i64 i0 ∧ Two8 w6 wr l f ∧ row f k = items gen T i0) (fun _ _ i _ => l - (intOf i).toNat)
  case atStart => exact ⟨0, 0, _, Nat.zero_le _, rfl, rfl, rfl, F8.out, rfl⟩
  case round =>
    clear F8
    obtain ⟨i, k, f, hi, rfl, rfl, rfl, hF, hrow⟩ := hrel
    by_cases hil : i < l
    · obtain ⟨b1, o1, e1, hb1, hc1⟩ := rg6 (by omega)
      obtain ⟨b2, o2, e2, hb2, hc2⟩ := rv6 (by omega)
      obtain ⟨b3, o3, e3, hb3, hc3⟩ := rh6 (by omega)
      cases e1
      cases e2
      cases e3
      have q1 : wr.cell? ⟨b1, o1 + i, none⟩ = some (.int .u32 (G i)) := (hF.2.1.cell (p := ⟨b1, o1 + i, none⟩) hb1).trans (hc1 i hil)
      have q2 : wr.cell? ⟨b2, o2 + i, none⟩ = some (.int .i64 (V i)) := (hF.2.1.cell (p := ⟨b2, o2 + i, none⟩) hb2).trans (hc2 i hil)
      have q3 : wr.cell? ⟨b3, o3 + i, none⟩ = some (.int .u64 (H i)) := (hF.2.1.cell (p := ⟨b3, o3 + i, none⟩) hb3).trans (hc3 i hil)
      have hil' : (i : Int) < (l : Int) := by omega
      have hki : k ≤ i := by have := congrArg List.length hrow; rw [row_length] at this; rw [this]; exact items_le gen T i
      have hsz : w6.heap.size + 2 ≤ wr.heap.size := hF.2.2
      have hb1' : b1 < wr.heap.size := by omega
      have hb2' : b2 < wr.heap.size := by omega
      have hb3' : b3 < wr.heap.size := by omega
      have HF := HxWalkA.hide hF
      have HRW := HxWalkA.hide hrow
      clear hF hrow rg6 rv6 rh6 hc1 hc2 hc3
      by_cases hG : G i = gen
      · rw [hG] at q1
        have EQ : Hid (items gen T (i + 1) = items gen T i ++ [(H i, V i)]) := by
          have := HT.out i hil
          rw [items_hit (by rw [this]; exact hG), this]; rfl
        clear hG
        have tokA : True := trivial
        go_wp2_with (first
          | (at_builtin; have _t := tokA; refine wp_app _ rfl (.tmp 159) (.tmp 164) 24 rfl 35 (.int .u64 0) 8 Try.underlying24 info35 w6.heap.size k l _ rfl (HF.out.1.1.alloc _) (by omega) wr.heap.size 1 (.int .u64 (H i)) rfl (by simp) rfl ?_; intro wa hra hga hsa; have q2a : wa.cell? ⟨b2, o2 + i, none⟩ = some (.int .i64 (V i)) := (World.cell?_of_block (a := ⟨b2, o2 + i, none⟩) (app_keep _ hga b2 hb2' (by omega))).trans q2; have rva := HxWalkA.hide (HF.out.1.2.of_block (app_keep _ hga (w6.heap.size + 1) (by omega) (by omega))); have RA := HxWalkA.hide hra; have GA := HxWalkA.hide hga; have SA := HxWalkA.hide hsa; clear tokA _t hra hga hsa q1 q2 q3)
          | (at_builtin; refine wp_app _ rfl (.tmp 166) (.tmp 171) 23 rfl 3 (.int .i64 0) 8 Try.underlying23 info3 (w6.heap.size + 1) k l _ rfl (rva.out.alloc _) (by omega) wa.heap.size 1 (.int .i64 (V i)) rfl (by simp) rfl ?_; intro wb hrb hgb hsb; have RB := HxWalkA.hide hrb; have GB := HxWalkA.hide hgb; have SB := HxWalkA.hide hsb; clear hrb hgb hsb q2a))
        go_roundw
        case rel =>
          exact ⟨i + 1, k + 1, _, by omega, rfl, rfl, by go_num, two8_push HF.out (H i, V i) _ _ RA.out GA.out SA.out RB.out GB.out SB.out, by rw [row_push, EQ.out, HRW.out]⟩
        case measure => simp [intOf]; omega
      · have EQ : Hid (items gen T (i + 1) = items gen T i) := by
          have := HT.out i hil
          exact items_miss (by rw [this]; exact hG)
        have hG' : (G i == gen) = false := by simpa using hG
        clear hG
        go_wp2
        go_roundw
        case rel =>
          exact ⟨i + 1, k, f, by omega, rfl, rfl, by go_num, HF.out, by rw [EQ.out]; exact HRW.out⟩
        case measure => simp [intOf]; omega
    · obtain rfl : i = l := by omega
      obtain ⟨w9, rfl⟩ : ∃ w9 : World, w9 = wr := ⟨_, rfl⟩
      obtain ⟨_, T', ht6, hch, hperm⟩ := HP6.out
      have hSlt := ht6.lt
      have hHlt := hh6.lt
      have hB69 := hF.2.1
      have ht9 : SlotsB w9 S' cap' T' := ht6.of_block (hB69.block S' hSlt)
      have hh9 : Head w9 hp S' N cap' g' mv := hh6.of_block (hB69.block hp hHlt)
      have HT9 := HxWalkA.hide ht9
      have HH9 := HxWalkA.hide hh9
      have HCH := HxWalkA.hide hch
      have HPM := HxWalkA.hide hperm
      have BF := HxWalkA.hide hF
      have BR := HxWalkA.hide hrow
      have h69 : w6.heap.size + 2 ≤ w9.heap.size := hF.2.2
      have hXB : Hid (∀ p, p < N → (T' p).1 = g' → 0 ≤ (T' p).2.2 ∧ (T' p).2.2 < 18446744073709551616) := fun p hp1 hu => by
        have hmem := hperm.subset (items_has hp1 hu)
        obtain ⟨j, hj, e⟩ := items_mem hmem
        have e1 : (T' p).2.2 = (T j).2.2 := congrArg Prod.fst e
        rw [e1, HT.out j hj]
        exact HHs.out j hj
      clear hF hrow ht6 hch hperm ht9 hh9 hh6 hB69 rg6 rv6 rh6 HHs HP6
      have tok2 : True := trivial
      go_wp2_with (first | (at_make; have _t := tok2; refine wp_mkCap _ rfl _ _ 24 rfl 35 (.int .u64 0) 8 Try.underlying24 info35 rfl _ i rfl rfl (by omega) (by omega) (by omega) ?_; intro w10 hr7 hb7 hs7; clear tok2 _t) | (at_make; refine wp_mkCap _ rfl _ _ 23 rfl 3 (.int .i64 0) 8 Try.underlying23 info3 rfl _ i rfl rfl (by omega) (by omega) (by omega) ?_; rw [hs7]; intro w11 hr8 hb8 hs8))
      have F8 : Hid (Two8 w9 w11 i (fun _ => (0, 0))) := ⟨⟨hr7.below hb8 (by omega), hr8⟩, hb7.trans (hb8.mono (by omega)), by omega⟩
      clear hr7 hb7 hs7 hr8 hb8 hs8
      go_loopw [19, 20, 22] (fun ah av pv wr => ∃ (p ka : Nat) (fa : Nat → Int × Int), p ≤ N ∧ ah = .slice (some ⟨w9.heap.size, 0, none⟩) ka i ∧ av = .slice (some ⟨w9.heap.size + 1, 0, none⟩) ka i ∧ pv = .int .i64 p ∧ Two8 w9 wr i fa ∧ row fa ka = items g' T' p) (fun _ _ pv _ => N - (intOf pv).toNat)
      case atStart => exact ⟨0, 0, _, Nat.zero_le _, rfl, rfl, rfl, F8.out, rfl⟩
      case round =>
        clear F8
        obtain ⟨p, ka, fa, hpN, rfl, rfl, rfl, hF, hrow⟩ := hrel
        by_cases hplt : p < N
        · have hpi : (p : Int) < (N : Int) := by omega
          have C18 := slot_any hp S' N cap' cap' p g' mv T' wr (HH9.out.of_block (hF.2.1.block hp (by omega))) (HT9.out.of_block (hF.2.1.block S' (by omega))) hplt hcapN
          have HF := HxWalkA.hide hF
          have HRW := HxWalkA.hide hrow
          have hsz : w9.heap.size + 2 ≤ wr.heap.size := hF.2.2
          clear hF hrow
          by_cases hu : (T' p).1 = g'
          · have EQ := HxWalkA.hide (items_hit hu)
            have hkl : ka < i := by
              have h1 := congrArg List.length HRW.out
              rw [row_length] at h1
              have h2 := items_mono g' T' (show p + 1 ≤ N by omega)
              rw [items_hit hu, List.length_append, HPM.out.length_eq] at h2
              have h3 := items_le gen T i
              simp at h2
              omega
            have hkl' : (ka : Int) < (i : Int) := by omega
            have hx := hXB.out p hplt hu
            have CHp := HxWalkA.hide (HCH.out p hplt hu)
            rw [hu] at C18
            obtain ⟨x, ex⟩ : ∃ x, (T' p).2.2 = x := ⟨_, rfl⟩
            obtain ⟨v, ev⟩ : ∃ v, (T' p).2.1 = v := ⟨_, rfl⟩
            rw [ex, ev] at C18 EQ
            rw [ex] at hx CHp
            clear hu ex ev
            have hxx : 0 ≤ x := hx.1
            obtain ⟨hm, ehm⟩ : ∃ hm, home N x = hm := ⟨_, rfl⟩
            have hm0 : bits .and .u64 x ((N : Int) - 1) = (hm : Int) := by rw [← ehm]; exact mask_u64 P2 (by omega) hx.1 hx.2
            have hmN : hm < N := by rw [← ehm]; exact Nat.mod_lt _ (by omega)
            rw [ehm] at CHp
            have HC18 := HxWalkA.hide C18
            clear C18 hx ehm
            have tokA : True := trivial
            go_wp2_with (first
              | (go_at_call 18; refine HC18.out.mono ?_; rintro e ws ⟨rfl, hbs⟩; have HFs := HxWalkA.hide (two8_below HF.out hbs); have hszs : w9.heap.size + 2 ≤ ws.heap.size := (two8_below HF.out hbs).2.2; clear hbs)
              | (at_builtin; have _t := tokA; refine wp_app _ rfl (.tmp 198) (.tmp 200) 24 rfl 35 (.int .u64 0) 8 Try.underlying24 info35 w9.heap.size ka i _ rfl (HFs.out.1.1.alloc _) (by omega) ws.heap.size 1 (.int .u64 x) rfl (by simp) rfl ?_; intro wa hra hga hsa; have rva := HxWalkA.hide (HFs.out.1.2.of_block (app_keep _ hga (w9.heap.size + 1) (by omega) (by omega))); have RA := HxWalkA.hide hra; have GA := HxWalkA.hide hga; have SA := HxWalkA.hide hsa; clear tokA _t hra hga hsa)
              | (at_builtin; refine wp_app _ rfl (.tmp 202) (.tmp 204) 23 rfl 3 (.int .i64 0) 8 Try.underlying23 info3 (w9.heap.size + 1) ka i _ rfl (rva.out.alloc _) (by omega) wa.heap.size 1 (.int .i64 v) rfl (by simp) rfl ?_; intro wb hrb hgb hsb; have RB := HxWalkA.hide hrb; have GB := HxWalkA.hide hgb; have SB := HxWalkA.hide hsb; clear hrb hgb hsb))
            have F2 : Hid (Two8 w9 wb i (push fa ka (x, v))) := two8_push HFs.out (x, v) _ _ RA.out GA.out SA.out RB.out GB.out SB.out
            clear RA GA SA RB GB SB rva HFs HC18
            go_loopw [26, 27] (fun kv sv w2 => ∃ t q : Nat, t ≤ (p + N - hm) % N ∧ q = (hm + t) % N ∧ kv = .int .i64 q ∧ sv = .int .i64 t ∧ Two8 w9 w2 i (push fa ka (x, v))) (fun _ sv _ => N - (intOf sv).toNat)
            case atStart => exact ⟨0, hm, Nat.zero_le _, by rw [Nat.add_zero, Nat.mod_eq_of_lt hmN], rfl, rfl, F2.out⟩
            case round =>
              clear F2
              obtain ⟨t, q, htD, hq, rfl, rfl, hF2⟩ := hrel
              have hDN : (p + N - hm) % N < N := Nat.mod_lt _ (by omega)
              have hqN : q < N := by rw [hq]; exact Nat.mod_lt _ (by omega)
              have HF2 := HxWalkA.hide hF2
              have HQ := HxWalkA.hide hq
              have htN : t < N := by omega
              have htN' : (t : Int) < (N : Int) := by omega
              have HD := HxWalkA.hide htD
              have HDN := HxWalkA.hide hDN
              clear hq htD hDN
              by_cases hqp : q = p
              · have hqp' : ((q : Int) != (p : Int)) = false := by rw [hqp]; simp
                clear hqp hF2
                go_wp2
                go_roundw
                case rel =>
                  exact ⟨p + 1, ka + 1, _, by omega, rfl, rfl, by go_num, HF2.out, by rw [row_push, EQ.out, HRW.out]⟩
                case measure => simp [intOf]; omega
              · have hqp' : ((q : Int) != (p : Int)) = true := by simp; omega
                have htD : Hid (t < (p + N - hm) % N) := by
                  have h1 := HD.out
                  have h2 : t ≠ (p + N - hm) % N := fun e => hqp (by rw [HQ.out, e]; exact ring_to hmN hplt)
                  exact Nat.lt_of_le_of_ne h1 h2
                have hu2 : (T' q).1 = g' := by rw [HQ.out]; exact CHp.out t htD.out
                have C18 := slot_any hp S' N cap' cap' q g' mv T' wr (HH9.out.of_block (hF2.2.1.block hp (by omega))) (HT9.out.of_block (hF2.2.1.block S' (by omega))) hqN hcapN
                rw [hu2] at C18
                have HC18 := HxWalkA.hide C18
                obtain ⟨q', hq'⟩ : ∃ q', q' = (q + 1) % N := ⟨_, rfl⟩
                have hm1 : bits .and .i64 ((q : Int) + 1) ((N : Int) - 1) = (q' : Int) := by rw [hq']; exact mask_i64 P2 (by omega) (by omega)
                have HQ' := HxWalkA.hide hq'
                clear hqp hF2 hu2 C18 hq' hm0
                go_wp2_with (go_at_call 18; refine HC18.out.mono ?_; rintro e w3 ⟨rfl, hb3⟩)
                go_roundw
                case rel =>
                  exact ⟨t + 1, q', htD.out, by rw [HQ'.out, HQ.out]; exact ring_next, rfl, by go_num, two8_below HF2.out hb3⟩
                case measure => simp [intOf]; omega
          · have EQ := HxWalkA.hide (items_miss hu)
            have hu' : ((T' p).1 != g') = true := by simpa using hu
            have HC18 := HxWalkA.hide C18
            clear hu C18
            go_wp2_with (go_at_call 18; refine HC18.out.mono ?_; rintro e wa ⟨rfl, hba⟩)
            go_roundw
            case rel =>
              exact ⟨p + 1, ka, fa, by omega, rfl, rfl, by go_num, two8_below HF.out hba, by rw [EQ.out]; exact HRW.out⟩
            case measure => simp [intOf]; omega
        · obtain rfl : p = N := by omega
          obtain ⟨w12, rfl⟩ : ∃ w12 : World, w12 = wr := ⟨_, rfl⟩
          have ekk : ka = k := by
            have h1 := congrArg List.length hrow
            have h2 := congrArg List.length BR.out
            rw [row_length] at h1 h2
            rw [h1, h2]; exact HPM.out.length_eq
          subst ekk
          have PERM : Hid ((row fa ka).Perm (row f ka)) := by rw [hrow, BR.out]; exact HPM.out
          have kl : ka ≤ i := by have h2 := congrArg List.length BR.out; rw [row_length] at h2; rw [h2]; exact items_le gen T i
          have B12 := hF.2.1
          have TB : HxSort.Two w12 w6.heap.size (w6.heap.size + 1) i f := ⟨BF.out.1.1.below B12 (by omega), BF.out.1.2.below B12 (by omega)⟩
          have TA := HxWalkA.hide hF.1
          have W12 := HxWalkA.hide (W6.out.trans ((BF.out.2.1.mono W6.out.size).trans (B12.mono (Nat.le_trans W6.out.size BF.out.2.1.size))))
          have hsz12 : w9.heap.size + 2 ≤ w12.heap.size := hF.2.2
          have hw6 := W6.out.size
          clear hF hrow B12 HT9 HH9 HCH HPM hXB BF BR HT
          go_wp2_with fail
          refine (HxSort.sort_any w6.heap.size (w6.heap.size + 1) ka i f _ TB (by omega) kl hn).mono ?_
          rintro e w13 ⟨rfl, ⟨f1, t1, s1, p1⟩, m1⟩
          have TA13 : HxSort.Two w13 w9.heap.size (w9.heap.size + 1) i fa := ⟨TA.out.1.of_block (m1.block _ (by omega) (by omega) (by omega)), TA.out.2.of_block (m1.block _ (by omega) (by omega) (by omega))⟩
          have W13 := HxWalkA.hide (W12.out.trans (m1.toBelow (B := w.heap.size) (by omega) hw6 (by omega)))
          have hs13 := m1.size
          go_wp2_with fail
          refine (HxSort.sort_any w9.heap.size (w9.heap.size + 1) ka i fa _ TA13 (by omega) kl hn).mono ?_
          rintro e w14 ⟨rfl, ⟨f2, t2, s2, p2⟩, m2⟩
          have t1' : HxSort.Two w14 w6.heap.size (w6.heap.size + 1) i f1 := ⟨t1.1.of_block (m2.block _ (by omega) (by omega) (by omega)), t1.2.of_block (m2.block _ (by omega) (by omega) (by omega))⟩
          have SAME : Hid (∀ j, j < ka → f2 j = f1 j) := fun j hj => sorted_same s2 s1 ((p2.trans PERM.out).trans p1.symm) j hj
          have W14 := HxWalkA.hide (W13.out.trans (m2.toBelow (B := w.heap.size) (by omega) (by omega) (by omega)))
          have T1 := HxWalkA.hide t1'
          have T2 := HxWalkA.hide t2
          clear TB TA t1 s1 p1 m1 TA13 W13 t2 s2 p2 m2 t1' PERM W12 W6
          go_wp2_with fail
          go_loopw [31] (fun jv wr => ∃ (j q : Nat), j ≤ ka ∧ jv = .int .i64 j ∧ wr = w14.drewN q) (fun jv _ => ka - (intOf jv).toNat)
          case atStart => exact ⟨0, 0, Nat.zero_le _, rfl, rfl⟩
          case round =>
            obtain ⟨j, q, hj, rfl, rfl⟩ := hrel
            by_cases hjk : j < ka
            · have c0 := T1.out.1.cell (i := j) (by omega)
              have c1 := T1.out.2.cell (i := j) (by omega)
              have c2 := T2.out.1.cell (i := j) (by omega)
              have c3 := T2.out.2.cell (i := j) (by omega)
              rw [SAME.out j hjk] at c2 c3
              obtain ⟨x, ex⟩ : ∃ x, (f1 j).1 = x := ⟨_, rfl⟩
              obtain ⟨v, ev⟩ : ∃ v, (f1 j).2 = v := ⟨_, rfl⟩
              rw [ex] at c0 c2
              rw [ev] at c1 c3
              clear ex ev
              have hjk' : (j : Int) < (ka : Int) := by omega
              have hxx : (x != x) = false := by simp
              have hvv : (v != v) = false := by simp
              go_wp2
              go_quiet (fail)
              go_wp2
              go_roundw
              case rel => exact ⟨j + 1, q + nq, by omega, by go_num, rfl⟩
              case measure => simp [intOf]; omega
            · go_wp2
              go_ret
              exact ⟨rfl, ⟨W14.out.os, W14.out.tape, W14.out.output, W14.out.size, W14.out.block⟩⟩

end Go.Proofs.Qxb6001121a.HxTail
