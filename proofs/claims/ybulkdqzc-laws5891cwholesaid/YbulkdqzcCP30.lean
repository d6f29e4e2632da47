/-
  from the thirtieth statement on: add
-/
import Derived.Test.YbulkdqzcCP33
namespace Go.Proofs.Ybulkdqzc.PartsC
open Go.ChangeShapes Go.WideShapes Go.ChangeAt Go.RowKit
set_option linter.unusedVariables false


def newN (N2 : Nat → Nat → Int) (n2 : Nat) (E : Nat → Int) (i : Nat) : Nat → Int := if i < n2 then N2 i else E

theorem tab_et {w W : World} {bl m bs bT bM bb nb cb bt n2 : Nat} {S C : Nat → Int} (hA : EA w W bl m S C) (hB : EB W bs m S) (hT : ET W bT bM bs m bb nb cb bt n2) : Tab W bT bM bs m (pre S) := by
  refine ⟨hT.c0, hT.m1, hB.st, fun r hr => ?_, hA.pos.2, hT.lt.1, hT.lt.2, hB.lt⟩
  have h1 := pre_bd S r (fun i hi => hA.u8 i (by omega))
  have h2 := pre_bd S (r + 1) (fun i hi => hA.u8 i (by omega))
  have h3 := hA.u8 r hr
  have h4 := hA.pos.2
  have h5 : pre S (r + 1) = pre S r + S r := rfl
  refine ⟨h1.1, by omega, by omega⟩

theorem add_here {w W : World} {bl m bs bT bM bb nb cb bt n2 lo fi : Nat} {S C : Nat → Int} {N1 N2 : Nat → Nat → Int} {c1 c2 c3 c4 c5 c6 c7 c8 c9 fo out : Int} (hA : EA w W bl m S C) (hB : EB W bs m S) (hN : EN W bb nb N1) (hM : EN W bt n2 N2) (hT : ET W bT bM bs m bb nb cb bt n2)
    (hnb : nb ≤ 1048577) (hn2 : n2 ≤ 1048576) (hfi : fi < nb + n2) (hlo : lo < m) (hfo : (fi < nb ∧ fo = N1 fi 4) ∨ (nb ≤ fi ∧ fo = N2 (fi - nb) 4)) (hout : Hid (out = if S lo = c2 then (nb : Int) + (n2 : Int) else fo)) :
    Calls Yba.prog 9 #[.pointer (some ⟨bT, 0, none⟩), nv lo c1 c2 c3 c4 c5 c6 c7 c8 c9, .int .i32 (fi : Int)] W (AddPost W bT nb n2 (newN N2 n2 (cf lo c1 c2 fi out (-1) (-1) c7 c8 0))) := by
  have hTab := tab_et hA hB hT
  have hout' : Hid (out = if pre S (lo + 1) - pre S lo = c2 then (nb : Int) + (n2 : Int) else fo) := by
    have h5 : pre S (lo + 1) - pre S lo = S lo := by
      have : pre S (lo + 1) = pre S lo + S lo := rfl
      omega
    show out = _
    rw [h5]
    exact hout.out
  have hold : ∀ i, i < n2 → newN N2 n2 (cf lo c1 c2 fi out (-1) (-1) c7 c8 0) i = N2 i := fun i hi => if_pos hi
  have hlast : ncells (newN N2 n2 (cf lo c1 c2 fi out (-1) (-1) c7 c8 0) n2) = [.int .i32 lo, .int .i32 c1, .int .i32 c2, .int .i32 fi, .int .i32 out, .int .i32 (-1), .int .i32 (-1), .int .u16 c7, .int .u8 c8, .int .u8 0] := by
    rw [newN, if_neg (Nat.lt_irrefl _)]
    rfl
  obtain ⟨lT, lM⟩ := hT.lt
  rcases hfo with ⟨h1, h2⟩ | ⟨h1, h2⟩
  · exact add_any bT bM bs m lo (pre S) (some ⟨bb, 0, none⟩) nb cb bt n2 N2 c1 c2 c3 c4 c5 c6 c7 c8 c9 fi fo out bb (fi * 10) W hTab hlo hT.c2 hT.c5 hT.fz hnb (by omega) hM.row hM.lt hout'
      (fun V hV => ptr_base bT bb nb cb fi V ((World.cell?_of_block (w := W) (a := ⟨bT, 2, none⟩) (hV _ lT)).trans hT.c2) hnb h1) ((en_at hN fi 4 h1 (by omega)).trans (by rw [h2]; rfl)) _ hold hlast
  · exact add_any bT bM bs m lo (pre S) (some ⟨bb, 0, none⟩) nb cb bt n2 N2 c1 c2 c3 c4 c5 c6 c7 c8 c9 fi fo out bt ((fi - nb) * 10) W hTab hlo hT.c2 hT.c5 hT.fz hnb (by omega) hM.row hM.lt hout'
      (fun V hV => ptr_nodes bT (some ⟨bb, 0, none⟩) nb cb bt n2 n2 fi V ((World.cell?_of_block (w := W) (a := ⟨bT, 2, none⟩) (hV _ lT)).trans hT.c2) ((World.cell?_of_block (w := W) (a := ⟨bT, 5, none⟩) (hV _ lT)).trans hT.c5) hnb (by omega) h1 hfi) ((en_at hM (fi - nb) 4 (by omega) (by omega)).trans (by rw [h2]; rfl)) _ hold hlast

theorem ef_of {w W V : World} {bl m bs bb nb cb bt bc tc n2 bM bT bE lo fi g cg : Nat} {S C : Nat → Int} {N1 N2 : Nat → Nat → Int} {c1 c2 c7 c8 out : Int} (hA : EA w W bl m S C) (hB : EB W bs m S) (hN : EN W bb nb N1) (hN' : EN W bc nb N1) (hM' : EN W tc n2 N2) (hT : ET W bT bM bs m bb nb cb bt n2)
    (hnb : nb ≤ 1048577) (hn2 : n2 ≤ 1048576) (hne : bb ≠ bT ∧ bt ≠ bT ∧ bc ≠ bT ∧ tc ≠ bT ∧ bl ≠ bT ∧ bs ≠ bT ∧ bM ≠ bT) (hwT : w.heap.size ≤ bT) (hE : BN W bE lo c1 c2 fi out (-1) (-1) c7 c8 0) (hET : bE ≠ bT)
    (ha : Added W V bT n2 (newN N2 n2 (cf lo c1 c2 fi out (-1) (-1) c7 c8 0)) g cg) :
    EF w V bl m bs bb nb cb bc tc n2 bM bT bE lo fi g cg S N1 N2 (newN N2 n2 (cf lo c1 c2 fi out (-1) (-1) c7 c8 0)) c1 c2 c7 c8 out := by
  obtain ⟨q1, q2, q3, q4, q5, q6, q7⟩ := hne
  have zw := hA.below.size
  have hc : ∀ b o, b < W.heap.size → b ≠ bT → V.cell? ⟨b, o, none⟩ = W.cell? ⟨b, o, none⟩ := fun b o h1 h2 => World.cell?_of_block (w := W) (a := ⟨b, o, none⟩) (ha.block b h1 h2)
  have ht := ha.table
  exact ⟨⟨ha.os.trans hA.below.os, ha.tape.trans hA.below.tape, ha.output.trans hA.below.output, Nat.le_trans hA.below.size ha.size, fun k hk => (ha.block k (by omega) (by omega)).trans (hA.below.block k hk)⟩,
    fun i hi => (hc _ _ hA.lt q5).trans (hA.ls i hi), hA.u8, hA.pos, hnb, hn2, fun r hr => (hc _ _ hB.lt q6).trans (hB.st r hr), fun c h => (hc _ _ hN.lt q1).trans (hN.row c h), fun c h => (hc _ _ hN'.lt q3).trans (hN'.row c h), fun c h => (hc _ _ hM'.lt q4).trans (hM'.row c h),
    ha.row, fun i hi => if_pos hi, if_neg (Nat.lt_irrefl _), (ha.block _ hE.lt hET).trans hE.heap,
    (ht _ (by omega)).trans hT.c0, (ht _ (by omega)).trans hT.c1, (ht _ (by omega)).trans hT.c2, (ht _ (by omega)).trans hT.c3, (ht _ (by omega)).trans hT.c4, ha.cell, (ht _ (by omega)).trans hT.c6, (ht _ (by omega)).trans hT.c7, (ht _ (by omega)).trans hT.c8, (ht _ (by omega)).trans hT.c9, (hc _ _ hT.lt.2 q7).trans hT.m1⟩

set_option maxRecDepth 100000 in
set_option maxHeartbeats 4000000 in
theorem ph30 (a1 a2 a3 : Option Addr) (n1 k1 n2 k2 n3 k3 : Nat) (c0 c1 c2 c3 c4 c5 c6 c7 c8 c9 f : Int) (w : World) (bl m cl bs bb nb cb bt bc tc bM bT fi bC lo bE : Nat) (fo out : Int) (S : Nat → Int) (N1 N2 : Nat → Nat → Int) (v13 v15 v17 : Value) (u32 u33 u34 u35 u36 u37 u38 u39 u40 u41 u42 u43 u44 u45 u46 u47 u48 u49 u50 u51 u52 u53 u54 u55 u56 u57 u58 u59 u60 u61 u62 u63 u64 u65 u66 u67 u68 u69 u70 u71 u72 u73 u74 u75 u76 u77 u78 u79 u80 u81 u82 u83 u84 u85 u86 u87 u88 u89 u90 u91 u92 u93 u94 u95 u96 u97 u98 u99 u100 u101 u102 u103 u104 u105 u106 u107 u108 u109 u110 u111 u112 u113 u114 u115 u116 u117 u118 u119 u120 u121 u122 u123 u124 u125 u126 u127 u128 u129 u130 u131 u132 u133 u134 u135 u136 u137 u138 u139 u140 u141 u142 u143 u144 u145 u146 u147 u148 u149 u150 u151 u152 u153 u154 u155 u156 u157 u158 u159 u160 u161 u162 u163 u164 u165 u166 u167 u168 u169 u170 u171 u172 u173 u174 u175 u176 u177 u178 u179 u180 u181 u182 u183 u184 u185 u186 u187 u188 u189 u190 u191 u192 u193 u194 u195 u196 u197 u198 u199 u200 u201 u202 u203 u204 u205 u206 u207 u208 u209 u210 u211 u212 u213 u214 u215 u216 u217 u218 u219 u220 u221 u222 u223 u224 u225 u226 u227 u228 u229 u230 u231 u232 u233 u234 u235 u236 u237 u238 u239 u240 u241 u242 u243 u244 u245 u246 u247 u248 u249 u250 u251 u252 u253 u254 u255 u256 u257 u258 u259 u260 u261 u262 u263 u264 u265 u266 u267 u268 u269 u270 u271 u272 u273 u274 u275 u276 u277 u278 u279 u280 u281 u282 u283 u284 u285 u286 u287 u288 u289 u290 u291 u292 u293 u294 u295 u296 u297 u298 u299 u300 u301 u302 u303 u304 u305 u306 u307 u308 u309 u310 u311 u312 u313 u314 u315 u316 u317 u318 u319 u320 u321 u322 u323 u324 u325 u326 u327 u328 u329 u330 u331 u332 u333 u334 u335 u336 u337 u338 u339 u340 u341 u342 u343 u344 u345 u346 u347 u348 u349 u350 u351 u352 u353 u354 u355 u356 u357 u358 u359 : Value) (W : World)
    (hA : EA w W bl m S (cf c0 c1 c2 c3 c4 c5 c6 c7 c8 c9)) (hB : EB W bs m S) (hN : EN W bb nb N1) (hM : EN W bt n2 N2) (hN' : EN W bc nb N1) (hM' : EN W tc n2 N2) (hT : ET W bT bM bs m bb nb cb bt n2) (hnb : nb ≤ 1048577) (hn2 : n2 ≤ 1048576) (hfi : fi < nb + n2) (hne : bb ≠ bT ∧ bt ≠ bT ∧ bc ≠ bT ∧ tc ≠ bT ∧ bl ≠ bT ∧ bs ≠ bT ∧ bM ≠ bT) (hwT : w.heap.size ≤ bT) (hC : BN W bC lo c1 c2 c3 c4 c5 c6 c7 c8 c9) (hE : BN W bE lo c1 c2 fi out (-1) (-1) c7 c8 0) (hlo : lo < m) (hET : bE ≠ bT)
    (hfo : (fi < nb ∧ fo = N1 fi 4) ∨ (nb ≤ fi ∧ fo = N2 (fi - nb) 4)) (hout : Hid (out = if S lo = c2 then (nb : Int) + (n2 : Int) else fo)) :
    Code.wp Yba.prog (tl 30 (Yba.f5.body.getD .skip)) (bodyPost Yba.prog Yba.f5 (LawPost w)) ⟨#[.slice a1 n1 k1, .slice a2 n2 k2, .slice a3 n3 k3, zv c0 c1 c2 c3 c4 c5 c6 c7 c8 c9, .int .u32 f, undef, undef, undef, .pointer (some ⟨w.heap.size, 0, none⟩), undef, .bool false, .slice (some ⟨bl, 0, none⟩) m cl, .slice (some ⟨bs, 0, none⟩) (m + 1) (m + 1), v13, .slice (some ⟨bb, 0, none⟩) nb cb, v15, .slice (some ⟨bt, 0, none⟩) n2 n2, v17, .slice (some ⟨bc, 0, none⟩) nb nb, .slice (some ⟨tc, 0, none⟩) n2 n2, .pointer (some ⟨bM, 0, none⟩), .pointer (some ⟨bT, 0, none⟩), .int .i32 ((nb : Int) + (n2 : Int)), .int .i32 (fi : Int), .pointer (some ⟨bC, 0, none⟩), .pointer (some ⟨bE, 0, none⟩), .int .i32 fo, undef, undef, undef, undef, undef, u32, u33, u34, u35, u36, u37, u38, u39, u40, u41, u42, u43, u44, u45, u46, u47, u48, u49, u50, u51, u52, u53, u54, u55, u56, u57, u58, u59, u60, u61, u62, u63, u64, u65, u66, u67, u68, u69, u70, u71, u72, u73, u74, u75, u76, u77, u78, u79, u80, u81, u82, u83, u84, u85, u86, u87, u88, u89, u90, u91, u92, u93, u94, u95, u96, u97, u98, u99, u100, u101, u102, u103, u104, u105, u106, u107, u108, u109, u110, u111, u112, u113, u114, u115, u116, u117, u118, u119, u120, u121, u122, u123, u124, u125, u126, u127, u128, u129, u130, u131, u132, u133, u134, u135, u136, u137, u138, u139, u140, u141, u142, u143, u144, u145, u146, u147, u148, u149, u150, u151, u152, u153, u154, u155, u156, u157, u158, u159, u160, u161, u162, u163, u164, u165, u166, u167, u168, u169, u170, u171, u172, u173, u174, u175, u176, u177, u178, u179, u180, u181, u182, u183, u184, u185, u186, u187, u188, u189, u190, u191, u192, u193, u194, u195, u196, u197, u198, u199, u200, u201, u202, u203, u204, u205, u206, u207, u208, u209, u210, u211, u212, u213, u214, u215, u216, u217, u218, u219, u220, u221, u222, u223, u224, u225, u226, u227, u228, u229, u230, u231, u232, u233, u234, u235, u236, u237, u238, u239, u240, u241, u242, u243, u244, u245, u246, u247, u248, u249, u250, u251, u252, u253, u254, u255, u256, u257, u258, u259, u260, u261, u262, u263, u264, u265, u266, u267, u268, u269, u270, u271, u272, u273, u274, u275, u276, u277, u278, u279, u280, u281, u282, u283, u284, u285, u286, u287, u288, u289, u290, u291, u292, u293, u294, u295, u296, u297, u298, u299, u300, u301, u302, u303, u304, u305, u306, u307, u308, u309, u310, u311, u312, u313, u314, u315, u316, u317, u318, u319, u320, u321, u322, u323, u324, u325, u326, u327, u328, u329, u330, u331, u332, u333, u334, u335, u336, u337, u338, u339, u340, u341, u342, u343, u344, u345, u346, u347, u348, u349, u350, u351, u352, u353, u354, u355, u356, u357, u358, u359], []⟩ W := by
  obtain ⟨y0, y1, y2, y3, y4, y5, y6, y7, y8, y9⟩ := hC.cells
  have HAdd : Hid (Calls Yba.prog 9 #[.pointer (some ⟨bT, 0, none⟩), nv lo c1 c2 c3 c4 c5 c6 c7 c8 c9, .int .i32 (fi : Int)] W (AddPost W bT nb n2 (newN N2 n2 (cf lo c1 c2 fi out (-1) (-1) c7 c8 0)))) := add_here (c1 := c1) (c7 := c7) (c8 := c8) (c3 := c3) (c4 := c4) (c5 := c5) (c6 := c6) (c9 := c9) hA hB hN hM hT hnb hn2 hfi hlo hfo hout
  have HEF : Hid (∀ V g cg, Added W V bT n2 (newN N2 n2 (cf lo c1 c2 fi out (-1) (-1) c7 c8 0)) g cg → EF w V bl m bs bb nb cb bc tc n2 bM bT bE lo fi g cg S N1 N2 (newN N2 n2 (cf lo c1 c2 fi out (-1) (-1) c7 c8 0)) c1 c2 c7 c8 out) :=
    fun V g cg ha => ef_of hA hB hN hN' hM' hT hnb hn2 hne hwT hE hET ha
  clear hA hB hN hM hN' hM' hT hC hE hfo hout
  conv => arg 2; whnf
  refine wp_seq_k fun K hK => ?_
  have HK : Hid _ := hK
  clear hK
  go_wp2_with fail
  refine HAdd.out.mono ?_
  rintro e V ⟨g, cg, rfl, hadd⟩
  have HF : Hid _ := HEF.out V g cg hadd
  clear hadd
  go_wp2_with fail
  refine HK.out _ _ ?_
  clear HK K HAdd HEF
  have kk5 := HF.out.c5
  have kk2 := HF.out.c2
  refine wp_seq_k fun K hK => ?_
  have HK : Hid _ := hK
  clear hK
  go_wp2_with fail
  refine HK.out _ _ ?_
  clear HK K
  refine wp_seq_k fun K hK => ?_
  have HK : Hid _ := hK
  clear hK
  go_wp2_with fail
  refine HK.out _ _ ?_
  clear HK K
  exact ph33 a1 a2 a3 n1 k1 n2 k2 n3 k3 c0 c1 c2 c3 c4 c5 c6 c7 c8 c9 f w bl m cl bs bb nb cb bt bc tc bM bT fi bC lo bE g cg fo out S N1 N2 _ _ _ _ _ _ _ _ _ _ _ _ _ _ _ _ _ _ _ _ _ _ _ _ _ _ _ _ _ _ _ _ _ _ _ _ _ _ _ _ _ _ _ _ _ _ _ _ _ _ _ _ _ _ _ _ _ _ _ _ _ _ _ _ _ _ _ _ _ _ _ _ _ _ _ _ _ _ _ _ _ _ _ _ _ _ _ _ _ _ _ _ _ _ _ _ _ _ _ _ _ _ _ _ _ _ _ _ _ _ _ _ _ _ _ _ _ _ _ _ _ _ _ _ _ _ _ _ _ _ _ _ _ _ _ _ _ _ _ _ _ _ _ _ _ _ _ _ _ _ _ _ _ _ _ _ _ _ _ _ _ _ _ _ _ _ _ _ _ _ _ _ _ _ _ _ _ _ _ _ _ _ _ _ _ _ _ _ _ _ _ _ _ _ _ _ _ _ _ _ _ _ _ _ _ _ _ _ _ _ _ _ _ _ _ _ _ _ _ _ _ _ _ _ _ _ _ _ _ _ _ _ _ _ _ _ _ _ _ _ _ _ _ _ _ _ _ _ _ _ _ _ _ _ _ _ _ _ _ _ _ _ _ _ _ _ _ _ _ _ _ _ _ _ _ _ _ _ _ _ _ _ _ _ _ _ _ _ _ _ _ _ _ _ _ _ _ _ _ _ _ _ _ _ _ _ _ _ _ _ _ _ _ _ _ _ _ _ _ _ _ _ _ _ _ _ _ _ _ _ _ _ _ _ HF.out
end Go.Proofs.Ybulkdqzc.PartsC
