/-
  from the twenty-second statement on: the node e
-/
import Derived.Test.YbulkdqzcCP30
namespace Go.Proofs.Ybulkdqzc.PartsC
open Go.ChangeShapes Go.WideShapes Go.ChangeAt Go.RowKit
set_option linter.unusedVariables false

set_option maxRecDepth 100000 in
set_option maxHeartbeats 4000000 in
theorem ph22 (a1 a2 a3 : Option Addr) (n1 k1 n2 k2 n3 k3 : Nat) (c0 c1 c2 c3 c4 c5 c6 c7 c8 c9 f : Int) (w : World) (bl m cl bs bb nb cb bt bc tc bM bT fi bC lo : Nat) (S : Nat → Int) (N1 N2 : Nat → Nat → Int) (v13 v15 v17 : Value) (u32 u33 u34 u35 u36 u37 u38 u39 u40 u41 u42 u43 u44 u45 u46 u47 u48 u49 u50 u51 u52 u53 u54 u55 u56 u57 u58 u59 u60 u61 u62 u63 u64 u65 u66 u67 u68 u69 u70 u71 u72 u73 u74 u75 u76 u77 u78 u79 u80 u81 u82 u83 u84 u85 u86 u87 u88 u89 u90 u91 u92 u93 u94 u95 u96 u97 u98 u99 u100 u101 u102 u103 u104 u105 u106 u107 u108 u109 u110 u111 u112 u113 u114 u115 u116 u117 u118 u119 u120 u121 u122 u123 u124 u125 u126 u127 u128 u129 u130 u131 u132 u133 u134 u135 u136 u137 u138 u139 u140 u141 u142 u143 u144 u145 u146 u147 u148 u149 u150 u151 u152 u153 u154 u155 u156 u157 u158 u159 u160 u161 u162 u163 u164 u165 u166 u167 u168 u169 u170 u171 u172 u173 u174 u175 u176 u177 u178 u179 u180 u181 u182 u183 u184 u185 u186 u187 u188 u189 u190 u191 u192 u193 u194 u195 u196 u197 u198 u199 u200 u201 u202 u203 u204 u205 u206 u207 u208 u209 u210 u211 u212 u213 u214 u215 u216 u217 u218 u219 u220 u221 u222 u223 u224 u225 u226 u227 u228 u229 u230 u231 u232 u233 u234 u235 u236 u237 u238 u239 u240 u241 u242 u243 u244 u245 u246 u247 u248 u249 u250 u251 u252 u253 u254 u255 u256 u257 u258 u259 u260 u261 u262 u263 u264 u265 u266 u267 u268 u269 u270 u271 u272 u273 u274 u275 u276 u277 u278 u279 u280 u281 u282 u283 u284 u285 u286 u287 u288 u289 u290 u291 u292 u293 u294 u295 u296 u297 u298 u299 u300 u301 u302 u303 u304 u305 u306 u307 u308 u309 u310 u311 u312 u313 u314 u315 u316 u317 u318 u319 u320 u321 u322 u323 u324 u325 u326 u327 u328 u329 u330 u331 u332 u333 u334 u335 u336 u337 u338 u339 u340 u341 u342 u343 u344 u345 u346 u347 u348 u349 u350 u351 u352 u353 u354 u355 u356 u357 u358 u359 : Value) (W : World)
    (hA : EA w W bl m S (cf c0 c1 c2 c3 c4 c5 c6 c7 c8 c9)) (hB : EB W bs m S) (hN : EN W bb nb N1) (hM : EN W bt n2 N2) (hN' : EN W bc nb N1) (hM' : EN W tc n2 N2) (hT : ET W bT bM bs m bb nb cb bt n2) (hnb : nb ≤ 1048577) (hn2 : n2 ≤ 1048576) (hfi : fi < nb + n2) (hne : bb ≠ bT ∧ bt ≠ bT ∧ bc ≠ bT ∧ tc ≠ bT ∧ bl ≠ bT ∧ bs ≠ bT ∧ bM ≠ bT) (hwT : w.heap.size ≤ bT) (hC : BN W bC lo c1 c2 c3 c4 c5 c6 c7 c8 c9) (hlo : lo < m) (hCT : bC ≠ bT) :
    Code.wp Yba.prog (tl 22 (Yba.f5.body.getD .skip)) (bodyPost Yba.prog Yba.f5 (LawPost w)) ⟨#[.slice a1 n1 k1, .slice a2 n2 k2, .slice a3 n3 k3, zv c0 c1 c2 c3 c4 c5 c6 c7 c8 c9, .int .u32 f, undef, undef, undef, .pointer (some ⟨w.heap.size, 0, none⟩), undef, .bool false, .slice (some ⟨bl, 0, none⟩) m cl, .slice (some ⟨bs, 0, none⟩) (m + 1) (m + 1), v13, .slice (some ⟨bb, 0, none⟩) nb cb, v15, .slice (some ⟨bt, 0, none⟩) n2 n2, v17, .slice (some ⟨bc, 0, none⟩) nb nb, .slice (some ⟨tc, 0, none⟩) n2 n2, .pointer (some ⟨bM, 0, none⟩), .pointer (some ⟨bT, 0, none⟩), .int .i32 ((nb : Int) + (n2 : Int)), .int .i32 (fi : Int), .pointer (some ⟨bC, 0, none⟩), undef, undef, undef, undef, undef, undef, undef, u32, u33, u34, u35, u36, u37, u38, u39, u40, u41, u42, u43, u44, u45, u46, u47, u48, u49, u50, u51, u52, u53, u54, u55, u56, u57, u58, u59, u60, u61, u62, u63, u64, u65, u66, u67, u68, u69, u70, u71, u72, u73, u74, u75, u76, u77, u78, u79, u80, u81, u82, u83, u84, u85, u86, u87, u88, u89, u90, u91, u92, u93, u94, u95, u96, u97, u98, u99, u100, u101, u102, u103, u104, u105, u106, u107, u108, u109, u110, u111, u112, u113, u114, u115, u116, u117, u118, u119, u120, u121, u122, u123, u124, u125, u126, u127, u128, u129, u130, u131, u132, u133, u134, u135, u136, u137, u138, u139, u140, u141, u142, u143, u144, u145, u146, u147, u148, u149, u150, u151, u152, u153, u154, u155, u156, u157, u158, u159, u160, u161, u162, u163, u164, u165, u166, u167, u168, u169, u170, u171, u172, u173, u174, u175, u176, u177, u178, u179, u180, u181, u182, u183, u184, u185, u186, u187, u188, u189, u190, u191, u192, u193, u194, u195, u196, u197, u198, u199, u200, u201, u202, u203, u204, u205, u206, u207, u208, u209, u210, u211, u212, u213, u214, u215, u216, u217, u218, u219, u220, u221, u222, u223, u224, u225, u226, u227, u228, u229, u230, u231, u232, u233, u234, u235, u236, u237, u238, u239, u240, u241, u242, u243, u244, u245, u246, u247, u248, u249, u250, u251, u252, u253, u254, u255, u256, u257, u258, u259, u260, u261, u262, u263, u264, u265, u266, u267, u268, u269, u270, u271, u272, u273, u274, u275, u276, u277, u278, u279, u280, u281, u282, u283, u284, u285, u286, u287, u288, u289, u290, u291, u292, u293, u294, u295, u296, u297, u298, u299, u300, u301, u302, u303, u304, u305, u306, u307, u308, u309, u310, u311, u312, u313, u314, u315, u316, u317, u318, u319, u320, u321, u322, u323, u324, u325, u326, u327, u328, u329, u330, u331, u332, u333, u334, u335, u336, u337, u338, u339, u340, u341, u342, u343, u344, u345, u346, u347, u348, u349, u350, u351, u352, u353, u354, u355, u356, u357, u358, u359], []⟩ W := by
  have HA : Hid (EA w W bl m S (cf c0 c1 c2 c3 c4 c5 c6 c7 c8 c9)) := hA
  have hm := hA.pos
  have ltT := hT.lt
  have hCl := hC.lt
  obtain ⟨y0, y1, y2, y3, y4, y5, y6, y7, y8, y9⟩ := hC.cells
  have HBb : Hid (EB W bs m S) := hB
  have HN : Hid (EN W bb nb N1) := hN
  have HM : Hid (EN W bt n2 N2) := hM
  have HN' : Hid (EN W bc nb N1) := hN'
  have HM' : Hid (EN W tc n2 N2) := hM'
  have HT : Hid (ET W bT bM bs m bb nb cb bt n2) := hT
  have HC : Hid (BN W bC lo c1 c2 c3 c4 c5 c6 c7 c8 c9) := hC
  clear hA hB hN hM hN' hM' hT hC
  conv => arg 2; whnf
  refine wp_seq_k fun K hK => ?_
  have HK : Hid _ := hK
  clear hK
  go_wp2_with fail
  refine HK.out _ _ ?_
  clear HK K
  refine wp_seq_k fun K hK => ?_
  have HK : Hid _ := hK
  clear hK
  go_wp2_with fail
  refine HK.out _ _ ?_
  clear HK K
  refine wp_seq_k fun K hK => ?_
  have HK : Hid _ := hK
  clear hK
  go_wp2_with fail
  refine HK.out _ _ ?_
  clear HK K
  refine wp_seq_k fun K hK => ?_
  have HK : Hid _ := hK
  clear hK
  go_wp2_with fail
  refine HK.out _ _ ?_
  clear HK K
  refine wp_seq_k fun K hK => ?_
  have HK : Hid _ := hK
  clear hK
  go_wp2_with fail
  refine HK.out _ _ ?_
  clear HK K
  refine wp_seq_k fun K hK => ?_
  have HK : Hid _ := hK
  clear hK
  go_wp2_with fail
  refine HK.out _ _ ?_
  clear HK K
  have hbU : Below W.heap.size W (W.alloc (nobj lo c1 c2 fi c4 (-1) (-1) c7 c8 0)) := (Below.refl _ _).alloc (Nat.le_refl _) _
  have hE : BN (W.alloc (nobj lo c1 c2 fi c4 (-1) (-1) c7 c8 0)) W.heap.size lo c1 c2 fi c4 (-1) (-1) c7 c8 0 := ⟨Deep.blk_alloc_new _ _, by simp⟩
  generalize W.alloc _ = U at hbU hE ⊢
  have yl : U.cell? ⟨bl, lo, none⟩ = some (.int .u8 (S lo)) := (HA.out.mono hbU).ls lo hlo
  have yu := HA.out.u8 lo hlo
  replace y0 := (hbU.cell (p := ⟨bC, 0, none⟩) hCl).trans y0
  replace y2 := (hbU.cell (p := ⟨bC, 2, none⟩) hCl).trans y2
  have e4 := hE.cells.2.2.2.2.1
  have g4 : U.frozen? ⟨W.heap.size, 4, none⟩ = false := by have h := hE.heap; simp [World.frozen?, h]
  have HbU : Hid (Below W.heap.size W U) := hbU
  have HE : Hid (BN U W.heap.size lo c1 c2 fi c4 (-1) (-1) c7 c8 0) := hE
  clear y1 y3 y4 y5 y6 y7 y8 y9 hbU hE
  refine wp_seq_k fun K hK => ?_
  have HK : Hid _ := hK
  clear hK
  by_cases hlt : fi < nb
  · have x4 : U.cell? ⟨bc, fi * 10 + 4, none⟩ = some (.int .i32 (N1 fi 4)) := en_at (HN'.out.mono HbU.out) fi 4 hlt (by omega)
    go_wp2_with fail
    refine HK.out _ _ ?_
    clear HK K x4
    refine wp_seq_k fun K hK => ?_
    have HK : Hid _ := hK
    clear hK
    go_wp2_with fail
    go_quiet (fail)
    by_cases he : S lo = c2
    · have he2 : (S lo == c2) = true := beq_iff_eq.2 he
      go_wp2_with fail
      refine HK.out _ _ ?_
      have hbX : Below W.heap.size W ((U.drewN nq).setCell ⟨W.heap.size, 4, none⟩ (.int .i32 ((nb : Int) + (n2 : Int)))) := (below_drewN HbU.out nq).setCell (p := ⟨W.heap.size, 4, none⟩) (Nat.le_refl _) _
      have hEX : ((U.drewN nq).setCell ⟨W.heap.size, 4, none⟩ (.int .i32 ((nb : Int) + (n2 : Int)))).heap[W.heap.size]? = some (nobj lo c1 c2 fi ((nb : Int) + (n2 : Int)) (-1) (-1) c7 c8 0) := by
        rw [heap_setCell_same _ _ _ _ _ _ (show (U.drewN nq).heap[W.heap.size]? = _ from HE.out.heap)]
        simp
      exact ph30 a1 a2 a3 n1 k1 n2 k2 n3 k3 c0 c1 c2 c3 c4 c5 c6 c7 c8 c9 f w bl m cl bs bb nb cb bt bc tc bM bT fi bC lo W.heap.size _ _ S N1 N2 _ _ _ _ _ _ _ _ _ _ _ _ _ _ _ _ _ _ _ _ _ _ _ _ _ _ _ _ _ _ _ _ _ _ _ _ _ _ _ _ _ _ _ _ _ _ _ _ _ _ _ _ _ _ _ _ _ _ _ _ _ _ _ _ _ _ _ _ _ _ _ _ _ _ _ _ _ _ _ _ _ _ _ _ _ _ _ _ _ _ _ _ _ _ _ _ _ _ _ _ _ _ _ _ _ _ _ _ _ _ _ _ _ _ _ _ _ _ _ _ _ _ _ _ _ _ _ _ _ _ _ _ _ _ _ _ _ _ _ _ _ _ _ _ _ _ _ _ _ _ _ _ _ _ _ _ _ _ _ _ _ _ _ _ _ _ _ _ _ _ _ _ _ _ _ _ _ _ _ _ _ _ _ _ _ _ _ _ _ _ _ _ _ _ _ _ _ _ _ _ _ _ _ _ _ _ _ _ _ _ _ _ _ _ _ _ _ _ _ _ _ _ _ _ _ _ _ _ _ _ _ _ _ _ _ _ _ _ _ _ _ _ _ _ _ _ _ _ _ _ _ _ _ _ _ _ _ _ _ _ _ _ _ _ _ _ _ _ _ _ _ _ _ _ _ _ _ _ _ _ _ _ _ _ _ _ _ _ _ _ _ _ _ _ _ _ _ _ _ _ _ _ _ _ _ _ _ _ _ _ _ _ _ _ _ _ _ _ _ _ _ _ _ _ _ _ _ _ _ _ _ _ (HA.out.mono hbX) (HBb.out.mono hbX) (HN.out.mono hbX) (HM.out.mono hbX) (HN'.out.mono hbX) (HM'.out.mono hbX) (HT.out.mono hbX) hnb hn2 hfi hne hwT (HC.out.mono hbX) ⟨hEX, by show W.heap.size < (U.setCell _ _).heap.size; rw [Deep.nblk_setCell]; exact HE.out.lt⟩ hlo (by omega) (Or.inl ⟨hlt, rfl⟩) (show _ = _ from by rw [if_pos he])
    · have he2 : (S lo == c2) = false := beq_eq_false_iff_ne.2 he
      go_wp2_with fail
      refine HK.out _ _ ?_
      have hbX : Below W.heap.size W ((U.drewN nq).setCell ⟨W.heap.size, 4, none⟩ (.int .i32 (N1 fi 4))) := (below_drewN HbU.out nq).setCell (p := ⟨W.heap.size, 4, none⟩) (Nat.le_refl _) _
      have hEX : ((U.drewN nq).setCell ⟨W.heap.size, 4, none⟩ (.int .i32 (N1 fi 4))).heap[W.heap.size]? = some (nobj lo c1 c2 fi (N1 fi 4) (-1) (-1) c7 c8 0) := by
        rw [heap_setCell_same _ _ _ _ _ _ (show (U.drewN nq).heap[W.heap.size]? = _ from HE.out.heap)]
        simp
      exact ph30 a1 a2 a3 n1 k1 n2 k2 n3 k3 c0 c1 c2 c3 c4 c5 c6 c7 c8 c9 f w bl m cl bs bb nb cb bt bc tc bM bT fi bC lo W.heap.size _ _ S N1 N2 _ _ _ _ _ _ _ _ _ _ _ _ _ _ _ _ _ _ _ _ _ _ _ _ _ _ _ _ _ _ _ _ _ _ _ _ _ _ _ _ _ _ _ _ _ _ _ _ _ _ _ _ _ _ _ _ _ _ _ _ _ _ _ _ _ _ _ _ _ _ _ _ _ _ _ _ _ _ _ _ _ _ _ _ _ _ _ _ _ _ _ _ _ _ _ _ _ _ _ _ _ _ _ _ _ _ _ _ _ _ _ _ _ _ _ _ _ _ _ _ _ _ _ _ _ _ _ _ _ _ _ _ _ _ _ _ _ _ _ _ _ _ _ _ _ _ _ _ _ _ _ _ _ _ _ _ _ _ _ _ _ _ _ _ _ _ _ _ _ _ _ _ _ _ _ _ _ _ _ _ _ _ _ _ _ _ _ _ _ _ _ _ _ _ _ _ _ _ _ _ _ _ _ _ _ _ _ _ _ _ _ _ _ _ _ _ _ _ _ _ _ _ _ _ _ _ _ _ _ _ _ _ _ _ _ _ _ _ _ _ _ _ _ _ _ _ _ _ _ _ _ _ _ _ _ _ _ _ _ _ _ _ _ _ _ _ _ _ _ _ _ _ _ _ _ _ _ _ _ _ _ _ _ _ _ _ _ _ _ _ _ _ _ _ _ _ _ _ _ _ _ _ _ _ _ _ _ _ _ _ _ _ _ _ _ _ _ _ _ _ _ _ _ _ _ _ _ _ _ _ _ _ (HA.out.mono hbX) (HBb.out.mono hbX) (HN.out.mono hbX) (HM.out.mono hbX) (HN'.out.mono hbX) (HM'.out.mono hbX) (HT.out.mono hbX) hnb hn2 hfi hne hwT (HC.out.mono hbX) ⟨hEX, by show W.heap.size < (U.setCell _ _).heap.size; rw [Deep.nblk_setCell]; exact HE.out.lt⟩ hlo (by omega) (Or.inl ⟨hlt, rfl⟩) (show _ = _ from by rw [if_neg he])
  · have x4 : U.cell? ⟨tc, (fi - nb) * 10 + 4, none⟩ = some (.int .i32 (N2 (fi - nb) 4)) := en_at (HM'.out.mono HbU.out) (fi - nb) 4 (by omega) (by omega)
    obtain ⟨d, rfl⟩ : ∃ d, fi = nb + d := ⟨fi - nb, by omega⟩
    rw [show nb + d - nb = d by omega] at x4
    go_wp2_with fail
    refine HK.out _ _ ?_
    clear HK K x4
    refine wp_seq_k fun K hK => ?_
    have HK : Hid _ := hK
    clear hK
    go_wp2_with fail
    go_quiet (fail)
    by_cases he : S lo = c2
    · have he2 : (S lo == c2) = true := beq_iff_eq.2 he
      go_wp2_with fail
      refine HK.out _ _ ?_
      have hbX : Below W.heap.size W ((U.drewN nq).setCell ⟨W.heap.size, 4, none⟩ (.int .i32 ((nb : Int) + (n2 : Int)))) := (below_drewN HbU.out nq).setCell (p := ⟨W.heap.size, 4, none⟩) (Nat.le_refl _) _
      have hEX : ((U.drewN nq).setCell ⟨W.heap.size, 4, none⟩ (.int .i32 ((nb : Int) + (n2 : Int)))).heap[W.heap.size]? = some (nobj lo c1 c2 ((nb + d : Nat) : Int) ((nb : Int) + (n2 : Int)) (-1) (-1) c7 c8 0) := by
        rw [heap_setCell_same _ _ _ _ _ _ (show (U.drewN nq).heap[W.heap.size]? = _ from HE.out.heap)]
        simp
      exact ph30 a1 a2 a3 n1 k1 n2 k2 n3 k3 c0 c1 c2 c3 c4 c5 c6 c7 c8 c9 f w bl m cl bs bb nb cb bt bc tc bM bT _ bC lo W.heap.size _ _ S N1 N2 _ _ _ _ _ _ _ _ _ _ _ _ _ _ _ _ _ _ _ _ _ _ _ _ _ _ _ _ _ _ _ _ _ _ _ _ _ _ _ _ _ _ _ _ _ _ _ _ _ _ _ _ _ _ _ _ _ _ _ _ _ _ _ _ _ _ _ _ _ _ _ _ _ _ _ _ _ _ _ _ _ _ _ _ _ _ _ _ _ _ _ _ _ _ _ _ _ _ _ _ _ _ _ _ _ _ _ _ _ _ _ _ _ _ _ _ _ _ _ _ _ _ _ _ _ _ _ _ _ _ _ _ _ _ _ _ _ _ _ _ _ _ _ _ _ _ _ _ _ _ _ _ _ _ _ _ _ _ _ _ _ _ _ _ _ _ _ _ _ _ _ _ _ _ _ _ _ _ _ _ _ _ _ _ _ _ _ _ _ _ _ _ _ _ _ _ _ _ _ _ _ _ _ _ _ _ _ _ _ _ _ _ _ _ _ _ _ _ _ _ _ _ _ _ _ _ _ _ _ _ _ _ _ _ _ _ _ _ _ _ _ _ _ _ _ _ _ _ _ _ _ _ _ _ _ _ _ _ _ _ _ _ _ _ _ _ _ _ _ _ _ _ _ _ _ _ _ _ _ _ _ _ _ _ _ _ _ _ _ _ _ _ _ _ _ _ _ _ _ _ _ _ _ _ _ _ _ _ _ _ _ _ _ _ _ _ _ _ _ _ _ _ _ _ _ _ _ _ _ _ _ _ (HA.out.mono hbX) (HBb.out.mono hbX) (HN.out.mono hbX) (HM.out.mono hbX) (HN'.out.mono hbX) (HM'.out.mono hbX) (HT.out.mono hbX) hnb hn2 hfi hne hwT (HC.out.mono hbX) ⟨hEX, by show W.heap.size < (U.setCell _ _).heap.size; rw [Deep.nblk_setCell]; exact HE.out.lt⟩ hlo (by omega) (Or.inr ⟨by omega, by rw [show nb + d - nb = d by omega]⟩) (show _ = _ from by rw [if_pos he])
    · have he2 : (S lo == c2) = false := beq_eq_false_iff_ne.2 he
      go_wp2_with fail
      refine HK.out _ _ ?_
      have hbX : Below W.heap.size W ((U.drewN nq).setCell ⟨W.heap.size, 4, none⟩ (.int .i32 (N2 d 4))) := (below_drewN HbU.out nq).setCell (p := ⟨W.heap.size, 4, none⟩) (Nat.le_refl _) _
      have hEX : ((U.drewN nq).setCell ⟨W.heap.size, 4, none⟩ (.int .i32 (N2 d 4))).heap[W.heap.size]? = some (nobj lo c1 c2 ((nb + d : Nat) : Int) (N2 d 4) (-1) (-1) c7 c8 0) := by
        rw [heap_setCell_same _ _ _ _ _ _ (show (U.drewN nq).heap[W.heap.size]? = _ from HE.out.heap)]
        simp
      exact ph30 a1 a2 a3 n1 k1 n2 k2 n3 k3 c0 c1 c2 c3 c4 c5 c6 c7 c8 c9 f w bl m cl bs bb nb cb bt bc tc bM bT _ bC lo W.heap.size _ _ S N1 N2 _ _ _ _ _ _ _ _ _ _ _ _ _ _ _ _ _ _ _ _ _ _ _ _ _ _ _ _ _ _ _ _ _ _ _ _ _ _ _ _ _ _ _ _ _ _ _ _ _ _ _ _ _ _ _ _ _ _ _ _ _ _ _ _ _ _ _ _ _ _ _ _ _ _ _ _ _ _ _ _ _ _ _ _ _ _ _ _ _ _ _ _ _ _ _ _ _ _ _ _ _ _ _ _ _ _ _ _ _ _ _ _ _ _ _ _ _ _ _ _ _ _ _ _ _ _ _ _ _ _ _ _ _ _ _ _ _ _ _ _ _ _ _ _ _ _ _ _ _ _ _ _ _ _ _ _ _ _ _ _ _ _ _ _ _ _ _ _ _ _ _ _ _ _ _ _ _ _ _ _ _ _ _ _ _ _ _ _ _ _ _ _ _ _ _ _ _ _ _ _ _ _ _ _ _ _ _ _ _ _ _ _ _ _ _ _ _ _ _ _ _ _ _ _ _ _ _ _ _ _ _ _ _ _ _ _ _ _ _ _ _ _ _ _ _ _ _ _ _ _ _ _ _ _ _ _ _ _ _ _ _ _ _ _ _ _ _ _ _ _ _ _ _ _ _ _ _ _ _ _ _ _ _ _ _ _ _ _ _ _ _ _ _ _ _ _ _ _ _ _ _ _ _ _ _ _ _ _ _ _ _ _ _ _ _ _ _ _ _ _ _ _ _ _ _ _ _ _ _ _ _ _ (HA.out.mono hbX) (HBb.out.mono hbX) (HN.out.mono hbX) (HM.out.mono hbX) (HN'.out.mono hbX) (HM'.out.mono hbX) (HT.out.mono hbX) hnb hn2 hfi hne hwT (HC.out.mono hbX) ⟨hEX, by show W.heap.size < (U.setCell _ _).heap.size; rw [Deep.nblk_setCell]; exact HE.out.lt⟩ hlo (by omega) (Or.inr ⟨by omega, by rw [show nb + d - nb = d by omega]⟩) (show _ = _ from by rw [if_neg he])
end Go.Proofs.Ybulkdqzc.PartsC
