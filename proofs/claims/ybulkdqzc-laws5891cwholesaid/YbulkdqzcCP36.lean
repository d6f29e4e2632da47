/-
  from the thirty-sixth statement on: the rest
-/
import Derived.Test.YbulkdqzcCEnvF
namespace Go.Proofs.Ybulkdqzc.PartsC
open Go.ChangeShapes Go.WideShapes Go.ChangeAt Go.RowKit
set_option linter.unusedVariables false

set_option maxRecDepth 100000 in
set_option maxHeartbeats 4000000 in
theorem ph36 (a1 a2 a3 : Option Addr) (n1 k1 n2 k2 n3 k3 : Nat) (c0 c1 c2 c3 c4 c5 c6 c7 c8 c9 f : Int) (w : World) (bl m cl bs bb nb cb bt bc tc bM bT fi bC lo bE g cg : Nat) (fo out : Int) (S : Nat → Int) (N1 N2 N' : Nat → Nat → Int) (v13 v15 v17 v27 v28 v29 v10 : Value) (u32 u33 u34 u35 u36 u37 u38 u39 u40 u41 u42 u43 u44 u45 u46 u47 u48 u49 u50 u51 u52 u53 u54 u55 u56 u57 u58 u59 u60 u61 u62 u63 u64 u65 u66 u67 u68 u69 u70 u71 u72 u73 u74 u75 u76 u77 u78 u79 u80 u81 u82 u83 u84 u85 u86 u87 u88 u89 u90 u91 u92 u93 u94 u95 u96 u97 u98 u99 u100 u101 u102 u103 u104 u105 u106 u107 u108 u109 u110 u111 u112 u113 u114 u115 u116 u117 u118 u119 u120 u121 u122 u123 u124 u125 u126 u127 u128 u129 u130 u131 u132 u133 u134 u135 u136 u137 u138 u139 u140 u141 u142 u143 u144 u145 u146 u147 u148 u149 u150 u151 u152 u153 u154 u155 u156 u157 u158 u159 u160 u161 u162 u163 u164 u165 u166 u167 u168 u169 u170 u171 u172 u173 u174 u175 u176 u177 u178 u179 u180 u181 u182 u183 u184 u185 u186 u187 u188 u189 u190 u191 u192 u193 u194 u195 u196 u197 u198 u199 u200 u201 u202 u203 u204 u205 u206 u207 u208 u209 u210 u211 u212 u213 u214 u215 u216 u217 u218 u219 u220 u221 u222 u223 u224 u225 u226 u227 u228 u229 u230 u231 u232 u233 u234 u235 u236 u237 u238 u239 u240 u241 u242 u243 u244 u245 u246 u247 u248 u249 u250 u251 u252 u253 u254 u255 u256 u257 u258 u259 u260 u261 u262 u263 u264 u265 u266 u267 u268 u269 u270 u271 u272 u273 u274 u275 u276 u277 u278 u279 u280 u281 u282 u283 u284 u285 u286 u287 u288 u289 u290 u291 u292 u293 u294 u295 u296 u297 u298 u299 u300 u301 u302 u303 u304 u305 u306 u307 u308 u309 u310 u311 u312 u313 u314 u315 u316 u317 u318 u319 u320 u321 u322 u323 u324 u325 u326 u327 u328 u329 u330 u331 u332 u333 u334 u335 u336 u337 u338 u339 u340 u341 u342 u343 u344 u345 u346 u347 u348 u349 u350 u351 u352 u353 u354 u355 u356 u357 u358 u359 : Value) (W : World)
    (hF : EF w W bl m bs bb nb cb bc tc n2 bM bT bE lo fi g cg S N1 N2 N' c1 c2 c7 c8 out) :
    Code.wp Yba.prog (tl 36 (Yba.f5.body.getD .skip)) (bodyPost Yba.prog Yba.f5 (LawPost w)) ⟨#[.slice a1 n1 k1, .slice a2 n2 k2, .slice a3 n3 k3, zv c0 c1 c2 c3 c4 c5 c6 c7 c8 c9, .int .u32 f, undef, undef, undef, .pointer (some ⟨w.heap.size, 0, none⟩), undef, v10, .slice (some ⟨bl, 0, none⟩) m cl, .slice (some ⟨bs, 0, none⟩) (m + 1) (m + 1), v13, .slice (some ⟨bb, 0, none⟩) nb cb, v15, .slice (some ⟨bt, 0, none⟩) n2 n2, v17, .slice (some ⟨bc, 0, none⟩) nb nb, .slice (some ⟨tc, 0, none⟩) n2 n2, .pointer (some ⟨bM, 0, none⟩), .pointer (some ⟨bT, 0, none⟩), .int .i32 ((nb : Int) + (n2 : Int)), .int .i32 (fi : Int), .pointer (some ⟨bC, 0, none⟩), .pointer (some ⟨bE, 0, none⟩), .int .i32 fo, v27, v28, v29, undef, undef, u32, u33, u34, u35, u36, u37, u38, u39, u40, u41, u42, u43, u44, u45, u46, u47, u48, u49, u50, u51, u52, u53, u54, u55, u56, u57, u58, u59, u60, u61, u62, u63, u64, u65, u66, u67, u68, u69, u70, u71, u72, u73, u74, u75, u76, u77, u78, u79, u80, u81, u82, u83, u84, u85, u86, u87, u88, u89, u90, u91, u92, u93, u94, u95, u96, u97, u98, u99, u100, u101, u102, u103, u104, u105, u106, u107, u108, u109, u110, u111, u112, u113, u114, u115, u116, u117, u118, u119, u120, u121, u122, u123, u124, u125, u126, u127, u128, u129, u130, u131, u132, u133, u134, u135, u136, u137, u138, u139, u140, u141, u142, u143, u144, u145, u146, u147, u148, u149, u150, u151, u152, u153, u154, u155, u156, u157, u158, u159, u160, u161, u162, u163, u164, u165, u166, u167, u168, u169, u170, u171, u172, u173, u174, u175, u176, u177, u178, u179, u180, u181, u182, u183, u184, u185, u186, u187, u188, u189, u190, u191, u192, u193, u194, u195, u196, u197, u198, u199, u200, u201, u202, u203, u204, u205, u206, u207, u208, u209, u210, u211, u212, u213, u214, u215, u216, u217, u218, u219, u220, u221, u222, u223, u224, u225, u226, u227, u228, u229, u230, u231, u232, u233, u234, u235, u236, u237, u238, u239, u240, u241, u242, u243, u244, u245, u246, u247, u248, u249, u250, u251, u252, u253, u254, u255, u256, u257, u258, u259, u260, u261, u262, u263, u264, u265, u266, u267, u268, u269, u270, u271, u272, u273, u274, u275, u276, u277, u278, u279, u280, u281, u282, u283, u284, u285, u286, u287, u288, u289, u290, u291, u292, u293, u294, u295, u296, u297, u298, u299, u300, u301, u302, u303, u304, u305, u306, u307, u308, u309, u310, u311, u312, u313, u314, u315, u316, u317, u318, u319, u320, u321, u322, u323, u324, u325, u326, u327, u328, u329, u330, u331, u332, u333, u334, u335, u336, u337, u338, u339, u340, u341, u342, u343, u344, u345, u346, u347, u348, u349, u350, u351, u352, u353, u354, u355, u356, u357, u358, u359], []⟩ W := by
  have HF : Hid (EF w W bl m bs bb nb cb bc tc n2 bM bT bE lo fi g cg S N1 N2 N' c1 c2 c7 c8 out) := hF
  obtain ⟨i45, hi45⟩ : ∃ i, Yba.prog.info? 45 = some i := by
    have h := info45
    cases hq : Yba.prog.info? 45 with
    | none => rw [hq] at h; cases h
    | some i => exact ⟨i, rfl⟩
  have qL : ∀ (w : World) (a : Addr), (binOp .neq 37 (.pointer (some a)) (.pointer (some a))).run Yba.prog w = .ok (.bool false) w := fun w a => Lib.run_neq_ptr_same w a Yba.underlying37 hi45
  have x0 := hF.c0
  have x1 := hF.c1
  have x3 := hF.c3
  have x4 := hF.c4
  have x6 := hF.c6
  have x7 := hF.c7
  have x8 := hF.c8
  have x9 := hF.c9
  have xm := hF.m1
  have hm := hF.pos
  clear hF
  conv => arg 2; whnf
  refine wp_seq_k fun K hK => ?_
  have HK : Hid _ := hK
  clear hK
  go_wp2_with fail
  refine HK.out _ _ ?_
  clear HK K x0 x1 x3 x4 x6 x7 x8 x9
  refine wp_seq_k fun K hK => ?_
  have HK : Hid _ := hK
  clear hK
  go_wp2_with fail
  refine HK.out _ _ ?_
  clear HK K
  refine wp_seq_k fun K hK => ?_
  have HK : Hid _ := hK
  clear hK
  go_wp2_with fail
  go_loopw [30, 31] (fun s i wr => ∃ k : Nat, k ≤ m ∧ i = .int .i64 k ∧ s = .int .i32 (pre S k) ∧ wr = W) (fun _ i _ => m - (intOf i).toNat)
  case atStart => exact ⟨0, by omega, rfl, rfl, rfl⟩
  case round =>
    obtain ⟨k, hk, rfl, rfl, rfl⟩ := hrel
    have bk := pre_bd S k (fun i hi => HF.out.u8 i (by omega))
    have y := HF.out.st k hk
    by_cases hlt : k < m
    · have u := HF.out.u8 k hlt
      have l := HF.out.ls k hlt
      go_wp2_with fail
      go_roundw
      case rel => exact ⟨k + 1, by omega, by go_num, rfl, trivial⟩
      case measure => simp [intOf]; omega
    · obtain rfl : k = m := by omega
      clear hk hlt
      go_wp2_with fail
      refine HK.out _ _ ?_
      clear HK
      go_wp2_with fail
      go_ret
      exact ⟨rfl, HF.out.below⟩
end Go.Proofs.Ybulkdqzc.PartsC
