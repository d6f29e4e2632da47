/-
  from the twentieth statement on: the node c
-/
import Derived.Test.YbulkdqzcCP22
namespace Go.Proofs.Ybulkdqzc.PartsC
open Go.ChangeShapes Go.WideShapes Go.ChangeAt Go.RowKit
set_option linter.unusedVariables false

set_option maxRecDepth 100000 in
set_option maxHeartbeats 4000000 in
theorem ph20 (a1 a2 a3 : Option Addr) (n1 k1 n2 k2 n3 k3 : Nat) (c0 c1 c2 c3 c4 c5 c6 c7 c8 c9 f : Int) (w : World) (bl m cl bs bb nb cb bt bc tc bM bT fi : Nat) (S : Nat → Int) (N1 N2 : Nat → Nat → Int) (v13 v15 v17 : Value) (u32 u33 u34 u35 u36 u37 u38 u39 u40 u41 u42 u43 u44 u45 u46 u47 u48 u49 u50 u51 u52 u53 u54 u55 u56 u57 u58 u59 u60 u61 u62 u63 u64 u65 u66 u67 u68 u69 u70 u71 u72 u73 u74 u75 u76 u77 u78 u79 u80 u81 u82 u83 u84 u85 u86 u87 u88 u89 u90 u91 u92 u93 u94 u95 u96 u97 u98 u99 u100 u101 u102 u103 u104 u105 u106 u107 u108 u109 u110 u111 u112 u113 u114 u115 u116 u117 u118 u119 u120 u121 u122 u123 u124 u125 u126 u127 u128 u129 u130 u131 u132 u133 u134 u135 u136 u137 u138 u139 u140 u141 u142 u143 u144 u145 u146 u147 u148 u149 u150 u151 u152 u153 u154 u155 u156 u157 u158 u159 u160 u161 u162 u163 u164 u165 u166 u167 u168 u169 u170 u171 u172 u173 u174 u175 u176 u177 u178 u179 u180 u181 u182 u183 u184 u185 u186 u187 u188 u189 u190 u191 u192 u193 u194 u195 u196 u197 u198 u199 u200 u201 u202 u203 u204 u205 u206 u207 u208 u209 u210 u211 u212 u213 u214 u215 u216 u217 u218 u219 u220 u221 u222 u223 u224 u225 u226 u227 u228 u229 u230 u231 u232 u233 u234 u235 u236 u237 u238 u239 u240 u241 u242 u243 u244 u245 u246 u247 u248 u249 u250 u251 u252 u253 u254 u255 u256 u257 u258 u259 u260 u261 u262 u263 u264 u265 u266 u267 u268 u269 u270 u271 u272 u273 u274 u275 u276 u277 u278 u279 u280 u281 u282 u283 u284 u285 u286 u287 u288 u289 u290 u291 u292 u293 u294 u295 u296 u297 u298 u299 u300 u301 u302 u303 u304 u305 u306 u307 u308 u309 u310 u311 u312 u313 u314 u315 u316 u317 u318 u319 u320 u321 u322 u323 u324 u325 u326 u327 u328 u329 u330 u331 u332 u333 u334 u335 u336 u337 u338 u339 u340 u341 u342 u343 u344 u345 u346 u347 u348 u349 u350 u351 u352 u353 u354 u355 u356 u357 u358 u359 : Value) (W : World)
    (hA : EA w W bl m S (cf c0 c1 c2 c3 c4 c5 c6 c7 c8 c9)) (hB : EB W bs m S) (hN : EN W bb nb N1) (hM : EN W bt n2 N2) (hN' : EN W bc nb N1) (hM' : EN W tc n2 N2) (hT : ET W bT bM bs m bb nb cb bt n2) (hnb : nb ≤ 1048577) (hn2 : n2 ≤ 1048576) (hfi : fi < nb + n2) (hne : bb ≠ bT ∧ bt ≠ bT ∧ bc ≠ bT ∧ tc ≠ bT ∧ bl ≠ bT ∧ bs ≠ bT ∧ bM ≠ bT) (hwT : w.heap.size ≤ bT) (hc0 : 0 ≤ c0 ∧ c0 ≤ 4294967295) :
    Code.wp Yba.prog (tl 20 (Yba.f5.body.getD .skip)) (bodyPost Yba.prog Yba.f5 (LawPost w)) ⟨#[.slice a1 n1 k1, .slice a2 n2 k2, .slice a3 n3 k3, zv c0 c1 c2 c3 c4 c5 c6 c7 c8 c9, .int .u32 f, undef, undef, undef, .pointer (some ⟨w.heap.size, 0, none⟩), undef, .bool false, .slice (some ⟨bl, 0, none⟩) m cl, .slice (some ⟨bs, 0, none⟩) (m + 1) (m + 1), v13, .slice (some ⟨bb, 0, none⟩) nb cb, v15, .slice (some ⟨bt, 0, none⟩) n2 n2, v17, .slice (some ⟨bc, 0, none⟩) nb nb, .slice (some ⟨tc, 0, none⟩) n2 n2, .pointer (some ⟨bM, 0, none⟩), .pointer (some ⟨bT, 0, none⟩), .int .i32 ((nb : Int) + (n2 : Int)), .int .i32 (fi : Int), undef, undef, undef, undef, undef, undef, undef, undef, u32, u33, u34, u35, u36, u37, u38, u39, u40, u41, u42, u43, u44, u45, u46, u47, u48, u49, u50, u51, u52, u53, u54, u55, u56, u57, u58, u59, u60, u61, u62, u63, u64, u65, u66, u67, u68, u69, u70, u71, u72, u73, u74, u75, u76, u77, u78, u79, u80, u81, u82, u83, u84, u85, u86, u87, u88, u89, u90, u91, u92, u93, u94, u95, u96, u97, u98, u99, u100, u101, u102, u103, u104, u105, u106, u107, u108, u109, u110, u111, u112, u113, u114, u115, u116, u117, u118, u119, u120, u121, u122, u123, u124, u125, u126, u127, u128, u129, u130, u131, u132, u133, u134, u135, u136, u137, u138, u139, u140, u141, u142, u143, u144, u145, u146, u147, u148, u149, u150, u151, u152, u153, u154, u155, u156, u157, u158, u159, u160, u161, u162, u163, u164, u165, u166, u167, u168, u169, u170, u171, u172, u173, u174, u175, u176, u177, u178, u179, u180, u181, u182, u183, u184, u185, u186, u187, u188, u189, u190, u191, u192, u193, u194, u195, u196, u197, u198, u199, u200, u201, u202, u203, u204, u205, u206, u207, u208, u209, u210, u211, u212, u213, u214, u215, u216, u217, u218, u219, u220, u221, u222, u223, u224, u225, u226, u227, u228, u229, u230, u231, u232, u233, u234, u235, u236, u237, u238, u239, u240, u241, u242, u243, u244, u245, u246, u247, u248, u249, u250, u251, u252, u253, u254, u255, u256, u257, u258, u259, u260, u261, u262, u263, u264, u265, u266, u267, u268, u269, u270, u271, u272, u273, u274, u275, u276, u277, u278, u279, u280, u281, u282, u283, u284, u285, u286, u287, u288, u289, u290, u291, u292, u293, u294, u295, u296, u297, u298, u299, u300, u301, u302, u303, u304, u305, u306, u307, u308, u309, u310, u311, u312, u313, u314, u315, u316, u317, u318, u319, u320, u321, u322, u323, u324, u325, u326, u327, u328, u329, u330, u331, u332, u333, u334, u335, u336, u337, u338, u339, u340, u341, u342, u343, u344, u345, u346, u347, u348, u349, u350, u351, u352, u353, u354, u355, u356, u357, u358, u359], []⟩ W := by
  have HA : Hid (EA w W bl m S (cf c0 c1 c2 c3 c4 c5 c6 c7 c8 c9)) := hA
  have hm := hA.pos
  have zb := hA.boxlt
  have hz := hA.box
  obtain ⟨y0, y1, y2, y3, y4, y5, y6, y7, y8, y9⟩ := hz
  simp only [cf, Nat.zero_add] at y0 y1 y2 y3 y4 y5 y6 y7 y8 y9
  clear hA
  have HBb : Hid (EB W bs m S) := hB
  have HN : Hid (EN W bb nb N1) := hN
  have HM : Hid (EN W bt n2 N2) := hM
  have HN' : Hid (EN W bc nb N1) := hN'
  have HM' : Hid (EN W tc n2 N2) := hM'
  have HT : Hid (ET W bT bM bs m bb nb cb bt n2) := hT
  have ltT := hT.lt
  clear hB hN hM hN' hM' hT
  conv => arg 2; whnf
  refine wp_seq_k fun K hK => ?_
  have HK : Hid _ := hK
  clear hK
  go_wp2_with (go_at_call 8; refine (cnode_any _ _ _ _ _ _ _ _ _ _ _).mono ?_; rintro e w' ⟨rfl, rfl⟩)
  refine HK.out _ _ ?_
  clear HK K
  obtain ⟨hbV, hC, zV⟩ := laid3 W (zobj c0 c1 c2 c3 c4 c5 c6 c7 c8 c9) (nobj (wrap32 c0) c1 c2 c3 c4 c5 c6 c7 c8 c9) (nobj (wrap32 c0) c1 c2 c3 c4 c5 c6 c7 c8 c9)
  generalize ((W.alloc (zobj c0 c1 c2 c3 c4 c5 c6 c7 c8 c9)).alloc (nobj (wrap32 c0) c1 c2 c3 c4 c5 c6 c7 c8 c9)).alloc _ = V at hbV hC zV ⊢
  have HbV : Hid (Below W.heap.size W V) := hbV
  replace y0 := (hbV.cell (p := ⟨w.heap.size, 0, none⟩) zb).trans y0
  clear y1 y2 y3 y4 y5 y6 y7 y8 y9 hbV
  have hC0 : V.cell? ⟨W.heap.size + 1 + 1, 0, none⟩ = some (.int .i32 (wrap32 c0)) := by simp [World.cell?, hC]
  have fC0 : V.frozen? ⟨W.heap.size + 1 + 1, 0, none⟩ = false := by simp [World.frozen?, hC]
  have HC : Hid _ := hC
  clear hC
  refine wp_seq_k fun K hK => ?_
  have HK : Hid _ := hK
  clear hK
  go_wp2_with fail
  refine HK.out _ _ ?_
  clear HK K
  obtain ⟨lo, hlo, hq⟩ := rem_nat (n := m) hc0.1 hm.1 (by omega)
  rw [hq]
  have hbU : Below W.heap.size W (V.setCell ⟨W.heap.size + 1 + 1, 0, none⟩ (.int .i32 (lo : Int))) := HbV.out.setCell (p := ⟨W.heap.size + 1 + 1, 0, none⟩) (by show W.heap.size ≤ W.heap.size + 1 + 1; omega) _
  have hBU : (V.setCell ⟨W.heap.size + 1 + 1, 0, none⟩ (.int .i32 (lo : Int))).heap[W.heap.size + 1 + 1]? = some (nobj lo c1 c2 c3 c4 c5 c6 c7 c8 c9) := by
    rw [heap_setCell_same _ _ _ _ _ _ HC.out]
    simp
  exact ph22 a1 a2 a3 n1 k1 n2 k2 n3 k3 c0 c1 c2 c3 c4 c5 c6 c7 c8 c9 f w bl m cl bs bb nb cb bt bc tc bM bT fi (W.heap.size + 1 + 1) lo S N1 N2 _ _ _ _ _ _ _ _ _ _ _ _ _ _ _ _ _ _ _ _ _ _ _ _ _ _ _ _ _ _ _ _ _ _ _ _ _ _ _ _ _ _ _ _ _ _ _ _ _ _ _ _ _ _ _ _ _ _ _ _ _ _ _ _ _ _ _ _ _ _ _ _ _ _ _ _ _ _ _ _ _ _ _ _ _ _ _ _ _ _ _ _ _ _ _ _ _ _ _ _ _ _ _ _ _ _ _ _ _ _ _ _ _ _ _ _ _ _ _ _ _ _ _ _ _ _ _ _ _ _ _ _ _ _ _ _ _ _ _ _ _ _ _ _ _ _ _ _ _ _ _ _ _ _ _ _ _ _ _ _ _ _ _ _ _ _ _ _ _ _ _ _ _ _ _ _ _ _ _ _ _ _ _ _ _ _ _ _ _ _ _ _ _ _ _ _ _ _ _ _ _ _ _ _ _ _ _ _ _ _ _ _ _ _ _ _ _ _ _ _ _ _ _ _ _ _ _ _ _ _ _ _ _ _ _ _ _ _ _ _ _ _ _ _ _ _ _ _ _ _ _ _ _ _ _ _ _ _ _ _ _ _ _ _ _ _ _ _ _ _ _ _ _ _ _ _ _ _ _ _ _ _ _ _ _ _ _ _ _ _ _ _ _ _ _ _ _ _ _ _ _ _ _ _ _ _ _ _ _ _ _ _ _ _ _ _ _ _ _ _ _ _ _ _ _ _ _ _ _ _ _ _ (HA.out.mono hbU) (HBb.out.mono hbU) (HN.out.mono hbU) (HM.out.mono hbU) (HN'.out.mono hbU) (HM'.out.mono hbU) (HT.out.mono hbU) hnb hn2 hfi hne hwT ⟨hBU, by rw [Deep.nblk_setCell]; omega⟩ hlo (by omega)
end Go.Proofs.Ybulkdqzc.PartsC
