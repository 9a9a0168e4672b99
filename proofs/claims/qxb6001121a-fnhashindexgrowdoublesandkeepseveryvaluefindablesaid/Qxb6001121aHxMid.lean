/-
  THE LAW's WALK, its middle: from 'ZZHashIndexLen(h) != want' on.
-/
import Derived.Test.Qxb6001121aHxTail
namespace Go.Proofs.Qxb6001121a.HxMid
open Go.RowKit Go.Proofs.Qxb6001121a.Mem Go.Proofs.Qxb6001121a.EdBase Go.Proofs.Qxb6001121a.HxMem Go.Proofs.Qxb6001121a.HxBits Go.Proofs.Qxb6001121a.HxPlain Go.Proofs.Qxb6001121a.HxWalkA Go.Proofs.Qxb6001121a.HxGrow Go.Proofs.Qxb6001121a.HxRoom Go.Proofs.Qxb6001121a.HxBase Go.Proofs.Qxb6001121a.HxSortPlain Go.Proofs.Qxb6001121a.HxTail

set_option maxRecDepth 1000000 in
set_option maxHeartbeats 8000000 in
theorem mid25 (g1 v1 h1 r1 : Option Addr) (l r cg1 cv1 ch1 cr1 N hp S' cap' : Nat) (G V H : Nat → Int) (T : Nat → Int × Int × Int) (gen g' : Int) (mv : Value) (w w6 : World)
    (hT : ∀ i, i < l → T i = (G i, V i, H i)) (hn : l ≤ 4096) (hr : r ≤ 8192) (P2 : HxBits.Pow2 N) (hN2 : N ≤ 8192) (hN3 : 2 * l ≤ N) (hN4 : 128 ≤ N) (hcapN : N ≤ cap') (hcapM : cap' ≤ 16384) (hgn : (g' == gen) = false) (hgz : (g' == 0) = false)
    (hHash : ∀ i, i < l → 0 ≤ H i ∧ H i < 18446744073709551616) (HC : Hid (cap' = if N ≤ l + r then l + r else N))
    (rg6 : RowIn w6 .u32 g1 l G) (rv6 : RowIn w6 .i64 v1 l V) (rh6 : RowIn w6 .u64 h1 l H) (W6 : Hid (Below w.heap.size w w6)) (HP6 : Hid (Placing w6 hp S' N cap' g' mv (items gen T l)))
    (y5 y6 y7 y8 y9 y10 y14 y15 y16 y17 y18 y19 y20 y21 y22 y23 y24 y25 y26 y27 y28 y29 y30 y31 y32 y33 y34 y35 y36 y37 y38 y39 y40 y41 y42 y43 y44 y45 y46 y47 y48 y49 y50 y51 y52 y53 y54 y55 y56 y57 y58 y59 y60 y61 y62 y63 y64 y65 y66 y67 y68 y69 y70 y71 y72 y73 y74 y75 y76 y77 y78 y79 y80 y81 y82 y83 y84 y85 y86 y87 y88 y89 y90 y91 y92 y93 y94 y95 y96 y97 y98 y99 y100 y101 y102 y103 y104 y105 y106 y107 y108 y109 y110 y111 y112 y113 y114 y115 y116 y117 y118 y119 y120 y121 y122 y123 y124 y125 y126 y127 y128 y129 y130 y131 y132 y133 y134 y135 y136 y137 y138 y139 y140 y141 y142 y143 y144 y145 y146 y147 y148 y149 y150 y151 y152 y153 y154 y155 y156 y157 y158 y159 y160 y161 y162 y163 y164 y165 y166 y167 y168 y169 y170 y171 y172 y173 y174 y175 y176 y177 y178 y179 y180 y181 y182 y183 y184 y185 y186 y187 y188 y189 y190 y191 y192 y193 y194 y195 y196 y197 y198 y199 y200 y201 y202 y203 y204 y205 y206 y207 y208 y209 y210 y211 y212 y213 y214 y215 y216 y217 y218 y219 y220 y221 y222 y223 y224 y225 y226 y227 y228 y229 y230 y231 y232 y233 y234 y235 y236 y237 y238 y239 y240 y241 y242 y243 y244 y245 y246 y247 y248 y249 y250 y251 y252 y253 y254 y255 y256 y257 y258 y259 y260 y261 y262 y263 y264 y265 y266 y267 y268 y269 : Value) :
    Code.wp Try.prog (suffixAt 25 (Try.f3.body.getD .skip)) (bodyPost Try.prog Try.f3 fun e w' => e = .returned (.bool true) ∧ Below w.heap.size w w') ⟨#[.slice g1 l cg1, .slice v1 l cv1, .slice h1 l ch1, .slice r1 r cr1, .int .u32 gen, y5, y6, y7, y8, y9, y10, .int .i64 (l : Int), .pointer (some ⟨hp, 0, none⟩), .int .i64 (N : Int), y14, y15, y16, y17, y18, y19, y20, y21, y22, y23, y24, y25, y26, y27, y28, y29, y30, y31, y32, y33, y34, y35, y36, y37, y38, y39, y40, y41, y42, y43, y44, y45, y46, y47, y48, y49, y50, y51, y52, y53, y54, y55, y56, y57, y58, y59, y60, y61, y62, y63, y64, y65, y66, y67, y68, y69, y70, y71, y72, y73, y74, y75, y76, y77, y78, y79, y80, y81, y82, y83, y84, y85, y86, y87, y88, y89, y90, y91, y92, y93, y94, y95, y96, y97, y98, y99, y100, y101, y102, y103, y104, y105, y106, y107, y108, y109, y110, y111, y112, y113, y114, y115, y116, y117, y118, y119, y120, y121, y122, y123, y124, y125, y126, y127, y128, y129, y130, y131, y132, y133, y134, y135, y136, y137, y138, y139, y140, y141, y142, y143, y144, y145, y146, y147, y148, y149, y150, y151, y152, y153, y154, y155, y156, y157, y158, y159, y160, y161, y162, y163, y164, y165, y166, y167, y168, y169, y170, y171, y172, y173, y174, y175, y176, y177, y178, y179, y180, y181, y182, y183, y184, y185, y186, y187, y188, y189, y190, y191, y192, y193, y194, y195, y196, y197, y198, y199, y200, y201, y202, y203, y204, y205, y206, y207, y208, y209, y210, y211, y212, y213, y214, y215, y216, y217, y218, y219, y220, y221, y222, y223, y224, y225, y226, y227, y228, y229, y230, y231, y232, y233, y234, y235, y236, y237, y238, y239, y240, y241, y242, y243, y244, y245, y246, y247, y248, y249, y250, y251, y252, y253, y254, y255, y256, y257, y258, y259, y260, y261, y262, y263, y264, y265, y266, y267, y268, y269], []⟩ w6 := by
  conv => arg 2; whnf
  have hh6 := HP6.out.1
  have HT := HxWalkA.hide hT
  have HHs := HxWalkA.hide hHash
  have R1 := HxWalkA.hide rg6
  have R2 := HxWalkA.hide rv6
  have R3 := HxWalkA.hide rh6
  clear hT hHash rg6 rv6 rh6
  go_wp2_with fail
  refine (len_any _ _ _ _ _ _ _ hh6).mono ?_
  rintro e w' ⟨rfl, hw'⟩
  obtain rfl : w6 = w' := hw'.symm
  clear hw'
  go_upto_if 126 with fail
  go_cut [13] (fun v wc => v = .int .i64 (N : Int) ∧ wc = w6)
  case first =>
    by_cases hroom : N ≤ l + r
    · have hce : ((cap' : Int) != (l : Int) + (r : Int)) = false := by rw [HC.out, if_pos hroom]; simp
      go_wp2_with (go_at_call 16; refine (cap_any _ _ _ _ _ _ _ hh6).mono ?_; rintro e w' ⟨rfl, rfl⟩)
      go_meet
      case rel => exact ⟨rfl, rfl⟩
    · have hce : ((cap' : Int) != (N : Int)) = false := by rw [HC.out, if_neg hroom]; simp
      go_wp2_with (go_at_call 16; refine (cap_any _ _ _ _ _ _ _ hh6).mono ?_; rintro e w' ⟨rfl, rfl⟩)
      go_meet
      case rel => exact ⟨rfl, rfl⟩
  case rest =>
    obtain ⟨rfl, hwc⟩ := hcut
    obtain rfl : w6 = wc := hwc.symm
    clear hwc HC
    rename_i K0 hK0
    refine hK0 _ _ ?_
    exact tail33 g1 v1 h1 r1 l r cg1 cv1 ch1 cr1 N hp S' cap' G V H T gen g' mv w w6 HT.out hn P2 hN2 hN3 hN4 hcapN hcapM hgn hgz HHs.out R1.out R2.out R3.out W6 HP6 _ _ _ _ _ _ _ _ _ _ _ _ _ _ _ _ _ _ _ _ _ _ _ _ _ _ _ _ _ _ _ _ _ _ _ _ _ _ _ _ _ _ _ _ _ _ _ _ _ _ _ _ _ _ _ _ _ _ _ _ _ _ _ _ _ _ _ _ _ _ _ _ _ _ _ _ _ _ _ _ _ _ _ _ _ _ _ _ _ _ _ _ _ _ _ _ _ _ _ _ _ _ _ _ _ _ _ _ _ _ _ _ _ _ _ _ _ _ _ _ _ _ _ _ _ _ _ _ _ _ _ _ _ _ _ _ _ _ _ _ _ _ _ _ _ _ _ _ _ _ _ _ _ _ _ _ _ _ _ _ _ _ _ _ _ _ _ _ _ _ _ _ _ _ _ _ _ _ _ _ _ _ _ _ _ _ _ _ _ _ _ _ _ _ _ _ _ _ _ _ _ _ _ _ _ _ _ _ _ _ _ _ _ _ _ _ _ _ _ _ _ _ _ _ _ _ _ _ _ _ _ _ _ _ _ _ _ _ _ _ _ _ _ _ _ _ _ _ _ _ _ _ _ _ _ _ _ _ _ _ _

end Go.Proofs.Qxb6001121a.HxMid
