/-
  from the seventh statement on: the base nodes
-/
import Derived.Test.YbulkdqzcCP10
namespace Go.Proofs.Ybulkdqzc.PartsC
open Go.ChangeShapes Go.WideShapes Go.ChangeAt Go.RowKit
set_option linter.unusedVariables false

set_option maxRecDepth 100000 in
set_option maxHeartbeats 4000000 in
theorem ph7 (a1 a2 a3 : Option Addr) (n1 k1 n2 k2 n3 k3 : Nat) (c0 c1 c2 c3 c4 c5 c6 c7 c8 c9 f : Int) (w : World) (Z1 Z2 : Nat → Nat → Int) (bl m cl bs : Nat) (S : Nat → Int) (v13 : Value) (u32 u33 u34 u35 u36 u37 u38 u39 u40 u41 u42 u43 u44 u45 u46 u47 u48 u49 u50 u51 u52 u53 u54 u55 u56 u57 u58 u59 u60 u61 u62 u63 u64 u65 u66 u67 u68 u69 u70 u71 u72 u73 u74 u75 u76 u77 u78 u79 u80 u81 u82 u83 u84 u85 u86 u87 u88 u89 u90 u91 u92 u93 u94 u95 u96 u97 u98 u99 u100 u101 u102 u103 u104 u105 u106 u107 u108 u109 u110 u111 u112 u113 u114 u115 u116 u117 u118 u119 u120 u121 u122 u123 u124 u125 u126 u127 u128 u129 u130 u131 u132 u133 u134 u135 u136 u137 u138 u139 u140 u141 u142 u143 u144 u145 u146 u147 u148 u149 u150 u151 u152 u153 u154 u155 u156 u157 u158 u159 u160 u161 u162 u163 u164 u165 u166 u167 u168 u169 u170 u171 u172 u173 u174 u175 u176 u177 u178 u179 u180 u181 u182 u183 u184 u185 u186 u187 u188 u189 u190 u191 u192 u193 u194 u195 u196 u197 u198 u199 u200 u201 u202 u203 u204 u205 u206 u207 u208 u209 u210 u211 u212 u213 u214 u215 u216 u217 u218 u219 u220 u221 u222 u223 u224 u225 u226 u227 u228 u229 u230 u231 u232 u233 u234 u235 u236 u237 u238 u239 u240 u241 u242 u243 u244 u245 u246 u247 u248 u249 u250 u251 u252 u253 u254 u255 u256 u257 u258 u259 u260 u261 u262 u263 u264 u265 u266 u267 u268 u269 u270 u271 u272 u273 u274 u275 u276 u277 u278 u279 u280 u281 u282 u283 u284 u285 u286 u287 u288 u289 u290 u291 u292 u293 u294 u295 u296 u297 u298 u299 u300 u301 u302 u303 u304 u305 u306 u307 u308 u309 u310 u311 u312 u313 u314 u315 u316 u317 u318 u319 u320 u321 u322 u323 u324 u325 u326 u327 u328 u329 u330 u331 u332 u333 u334 u335 u336 u337 u338 u339 u340 u341 u342 u343 u344 u345 u346 u347 u348 u349 u350 u351 u352 u353 u354 u355 u356 u357 u358 u359 : Value) (W : World)
    (hA : EA w W bl m S (cf c0 c1 c2 c3 c4 c5 c6 c7 c8 c9)) (hB : EB W bs m S) (hz1 : Zs w a1 n1 Z1) (hz2 : Zs w a2 n2 Z2) (hsum : n1 + n2 + n3 ≤ 1048576) (hc0 : 0 ≤ c0 ∧ c0 ≤ 4294967295) (hf : 0 ≤ f ∧ f ≤ 4294967295) :
    Code.wp Yba.prog (tl 7 (Yba.f5.body.getD .skip)) (bodyPost Yba.prog Yba.f5 (LawPost w)) ⟨#[.slice a1 n1 k1, .slice a2 n2 k2, .slice a3 n3 k3, zv c0 c1 c2 c3 c4 c5 c6 c7 c8 c9, .int .u32 f, undef, undef, undef, .pointer (some ⟨w.heap.size, 0, none⟩), undef, .bool false, .slice (some ⟨bl, 0, none⟩) m cl, .slice (some ⟨bs, 0, none⟩) (m + 1) (m + 1), v13, undef, undef, undef, undef, undef, undef, undef, undef, undef, undef, undef, undef, undef, undef, undef, undef, undef, undef, u32, u33, u34, u35, u36, u37, u38, u39, u40, u41, u42, u43, u44, u45, u46, u47, u48, u49, u50, u51, u52, u53, u54, u55, u56, u57, u58, u59, u60, u61, u62, u63, u64, u65, u66, u67, u68, u69, u70, u71, u72, u73, u74, u75, u76, u77, u78, u79, u80, u81, u82, u83, u84, u85, u86, u87, u88, u89, u90, u91, u92, u93, u94, u95, u96, u97, u98, u99, u100, u101, u102, u103, u104, u105, u106, u107, u108, u109, u110, u111, u112, u113, u114, u115, u116, u117, u118, u119, u120, u121, u122, u123, u124, u125, u126, u127, u128, u129, u130, u131, u132, u133, u134, u135, u136, u137, u138, u139, u140, u141, u142, u143, u144, u145, u146, u147, u148, u149, u150, u151, u152, u153, u154, u155, u156, u157, u158, u159, u160, u161, u162, u163, u164, u165, u166, u167, u168, u169, u170, u171, u172, u173, u174, u175, u176, u177, u178, u179, u180, u181, u182, u183, u184, u185, u186, u187, u188, u189, u190, u191, u192, u193, u194, u195, u196, u197, u198, u199, u200, u201, u202, u203, u204, u205, u206, u207, u208, u209, u210, u211, u212, u213, u214, u215, u216, u217, u218, u219, u220, u221, u222, u223, u224, u225, u226, u227, u228, u229, u230, u231, u232, u233, u234, u235, u236, u237, u238, u239, u240, u241, u242, u243, u244, u245, u246, u247, u248, u249, u250, u251, u252, u253, u254, u255, u256, u257, u258, u259, u260, u261, u262, u263, u264, u265, u266, u267, u268, u269, u270, u271, u272, u273, u274, u275, u276, u277, u278, u279, u280, u281, u282, u283, u284, u285, u286, u287, u288, u289, u290, u291, u292, u293, u294, u295, u296, u297, u298, u299, u300, u301, u302, u303, u304, u305, u306, u307, u308, u309, u310, u311, u312, u313, u314, u315, u316, u317, u318, u319, u320, u321, u322, u323, u324, u325, u326, u327, u328, u329, u330, u331, u332, u333, u334, u335, u336, u337, u338, u339, u340, u341, u342, u343, u344, u345, u346, u347, u348, u349, u350, u351, u352, u353, u354, u355, u356, u357, u358, u359], []⟩ W := by
  obtain ⟨i35, hi35, hy1, hy2, hy3⟩ := info_parts info35
  have HA : Hid (EA w W bl m S (cf c0 c1 c2 c3 c4 c5 c6 c7 c8 c9)) := hA
  have HBb : Hid (EB W bs m S) := hB
  have Hz1 : Hid (Zs w a1 n1 Z1) := hz1
  have Hz2 : Hid (Zs w a2 n2 Z2) := hz2
  clear hA hB hz1 hz2
  conv => arg 2; whnf
  refine wp_seq_k fun K hK => ?_
  have HK : Hid _ := hK
  clear hK
  go_wp2_with (at_make; refine wpList_make_own _ rfl _ _ 33 rfl W.heap.size 35 i35 (nv 0 0 0 0 0 0 0 0 0 0) 10 Yba.underlying33 hi35 hy1 hy2 .i64 .i64 _ (n1 + 1) rfl rfl (by omega) (by rw [hy3]; omega) (by unfold maxLen; omega) (Nat.le_refl _) ?_; intro w1 hown1 hgrow1)
  refine HK.out _ _ ?_
  clear HK K
  have hp0 : P8 W w1 n1 0 Z1 := ⟨(Below.refl _ _).grown hgrow1 (Nat.le_refl _) (fun k h => by cases h), hown1⟩
  clear hown1 hgrow1
  refine wp_seq_k fun K hK => ?_
  have HK : Hid _ := hK
  clear hK
  go_wp2_with fail
  go_loopw [14, 15] (fun v i wr => ∃ k : Nat, k ≤ n1 ∧ i = .int .i64 k ∧ v = .slice (some ⟨W.heap.size, 0, none⟩) k (n1 + 1) ∧ P8 W wr n1 k Z1) (fun _ i _ => n1 - (intOf i).toNat)
  case atStart => exact ⟨0, by omega, rfl, rfl, hp0⟩
  case round =>
    obtain ⟨k, hk, rfl, rfl, hp⟩ := hrel
    have zr : W.heap.size < wr.heap.size := own_lt hp.own
    have HP : Hid (P8 W wr n1 k Z1) := hp
    clear hp
    by_cases hlt : k < n1
    · obtain ⟨b, o, rfl, hb, hz⟩ := (Hz1.out.mono (HA.out.below.trans (HP.out.below.mono (by have := HA.out.below.size; omega)))) k hlt
      obtain ⟨y0, y1, y2, y3, y4, y5, y6, y7, y8, y9⟩ := hz
      go_wp2_with (first
        | (go_at_call 8; refine (cnode_any _ _ _ _ _ _ _ _ _ _ _).mono ?_; rintro e w' ⟨rfl, rfl⟩)
        | (at_builtin; refine wpList_append_fits _ rfl (.tmp 88) (.tmp 94) 33 rfl W.heap.size 35 i35 10 Yba.underlying33 hi35 hy2 W.heap.size k (n1 + 1) (rowN (zn Z1) k) rfl (((HP.out.own.alloc _).alloc _).alloc _) ⟨wr.heap.size + 1 + 1, 0, none⟩ 1 1 [.int .i32 (wrap32 (Z1 k 0)), .int .i32 (Z1 k 1), .int .i32 (Z1 k 2), .int .i32 (Z1 k 3), .int .i32 (Z1 k 4), .int .i32 (Z1 k 5), .int .i32 (Z1 k 6), .int .u16 (Z1 k 7), .int .u8 (Z1 k 8), .int .u8 (Z1 k 9)] rfl rfl (news_at2 _ _ _ _ (by simp)) (ones2 _ _ _ _ _ _ _ _ _ _) (by omega) ?_; intro w2 hown2 hgrow2))
      have hp2 : P8 W w2 n1 (k + 1) Z1 := by
        refine ⟨(((HP.out.below.alloc (by omega) _).alloc (by simp; omega) _).alloc (by simp; omega) _).grown hgrow2 (by simp; omega) (fun j h => by cases h; exact Nat.le_refl _), ?_⟩
        rw [rowN, ncells_zn]
        exact hown2
      have HP2 : Hid (P8 W w2 n1 (k + 1) Z1) := hp2
      clear hp2 hown2 hgrow2
      go_roundw
      case rel => exact ⟨k + 1, by omega, by go_num, rfl, HP2.out⟩
      case measure => simp [intOf]; omega
    · obtain rfl : k = n1 := by omega
      clear hk hlt
      go_wp2_with fail
      refine HK.out _ _ ?_
      clear HK
      have hA2 := HA.out.mono HP.out.below
      have hB2 := HBb.out.mono HP.out.below
      have HA2 : Hid _ := hA2
      have HB2 : Hid _ := hB2
      clear hA2 hB2
      refine wp_seq_k fun K2 hK => ?_
      have HK : Hid _ := hK
      clear hK
      by_cases h0 : k + n2 = 0
      · obtain ⟨rfl, rfl⟩ : k = 0 ∧ n2 = 0 := by omega
        go_wp2_with (at_builtin; refine wpList_append_fits _ rfl (.tmp 102) (.tmp 104) 33 rfl W.heap.size 35 i35 10 Yba.underlying33 hi35 hy2 W.heap.size 0 1 (rowN (zn Z1) 0) rfl (HP.out.own.alloc _) ⟨wr.heap.size, 0, none⟩ 1 1 [.int .i32 0, .int .i32 0, .int .i32 0, .int .i32 0, .int .i32 (-1), .int .i32 (-1), .int .i32 (-1), .int .u16 0, .int .u8 0, .int .u8 0] rfl rfl (news_at2 _ _ _ _ rfl) (ones2 _ _ _ _ _ _ _ _ _ _) (by omega) ?_; intro w2 hown2 hgrow2)
        refine HK.out _ _ ?_
        have hb2 : Below wr.heap.size wr (wr.alloc (nobj 0 0 0 0 (-1) (-1) (-1) 0 0 0)) := (Below.refl _ _).alloc (Nat.le_refl _) _
        have hN : EN w2 W.heap.size 1 (fun _ => cf 0 0 0 0 (-1) (-1) (-1) 0 0 0) := ⟨fun c hc => by
          rw [hown2.cellAt c hc]
          rfl, own_lt hown2⟩
        have hbw : Below W.heap.size W w2 := (HP.out.below.alloc (by omega) _).grown hgrow2 (by simp; omega) (fun j h => by cases h; exact Nat.le_refl _)
        exact ph10 a1 a2 a3 _ k1 _ k2 n3 k3 c0 c1 c2 c3 c4 c5 c6 c7 c8 c9 f w Z2 bl m cl bs W.heap.size 1 _ S (fun _ => cf 0 0 0 0 (-1) (-1) (-1) 0 0 0) _ _ _ _ _ _ _ _ _ _ _ _ _ _ _ _ _ _ _ _ _ _ _ _ _ _ _ _ _ _ _ _ _ _ _ _ _ _ _ _ _ _ _ _ _ _ _ _ _ _ _ _ _ _ _ _ _ _ _ _ _ _ _ _ _ _ _ _ _ _ _ _ _ _ _ _ _ _ _ _ _ _ _ _ _ _ _ _ _ _ _ _ _ _ _ _ _ _ _ _ _ _ _ _ _ _ _ _ _ _ _ _ _ _ _ _ _ _ _ _ _ _ _ _ _ _ _ _ _ _ _ _ _ _ _ _ _ _ _ _ _ _ _ _ _ _ _ _ _ _ _ _ _ _ _ _ _ _ _ _ _ _ _ _ _ _ _ _ _ _ _ _ _ _ _ _ _ _ _ _ _ _ _ _ _ _ _ _ _ _ _ _ _ _ _ _ _ _ _ _ _ _ _ _ _ _ _ _ _ _ _ _ _ _ _ _ _ _ _ _ _ _ _ _ _ _ _ _ _ _ _ _ _ _ _ _ _ _ _ _ _ _ _ _ _ _ _ _ _ _ _ _ _ _ _ _ _ _ _ _ _ _ _ _ _ _ _ _ _ _ _ _ _ _ _ _ _ _ _ _ _ _ _ _ _ _ _ _ _ _ _ _ _ _ _ _ _ _ _ _ _ _ _ _ _ _ _ _ _ _ _ _ _ _ _ _ _ _ _ _ _ _ _ _ _ _ _ _ _ _ _ (HA.out.mono hbw) (HBb.out.mono hbw) (hN) Hz2.out hsum (by omega) (by omega) hc0 hf
      · have h0' : ((k : Int) + (n2 : Int) == 0) = false := by rw [beq_eq_false_iff_ne]; omega
        go_wp2_with fail
        refine HK.out _ _ ?_
        have hN : EN wr W.heap.size k (zn Z1) := ⟨fun c hc => HP.out.own.cellAt c hc, zr⟩
        exact ph10 a1 a2 a3 _ k1 _ k2 n3 k3 c0 c1 c2 c3 c4 c5 c6 c7 c8 c9 f w Z2 bl m cl bs W.heap.size k _ S (zn Z1) _ _ _ _ _ _ _ _ _ _ _ _ _ _ _ _ _ _ _ _ _ _ _ _ _ _ _ _ _ _ _ _ _ _ _ _ _ _ _ _ _ _ _ _ _ _ _ _ _ _ _ _ _ _ _ _ _ _ _ _ _ _ _ _ _ _ _ _ _ _ _ _ _ _ _ _ _ _ _ _ _ _ _ _ _ _ _ _ _ _ _ _ _ _ _ _ _ _ _ _ _ _ _ _ _ _ _ _ _ _ _ _ _ _ _ _ _ _ _ _ _ _ _ _ _ _ _ _ _ _ _ _ _ _ _ _ _ _ _ _ _ _ _ _ _ _ _ _ _ _ _ _ _ _ _ _ _ _ _ _ _ _ _ _ _ _ _ _ _ _ _ _ _ _ _ _ _ _ _ _ _ _ _ _ _ _ _ _ _ _ _ _ _ _ _ _ _ _ _ _ _ _ _ _ _ _ _ _ _ _ _ _ _ _ _ _ _ _ _ _ _ _ _ _ _ _ _ _ _ _ _ _ _ _ _ _ _ _ _ _ _ _ _ _ _ _ _ _ _ _ _ _ _ _ _ _ _ _ _ _ _ _ _ _ _ _ _ _ _ _ _ _ _ _ _ _ _ _ _ _ _ _ _ _ _ _ _ _ _ _ _ _ _ _ _ _ _ _ _ _ _ _ _ _ _ _ _ _ _ _ _ _ _ _ _ _ _ _ _ _ _ _ _ _ _ _ _ _ _ _ _ (HA2.out) (HB2.out) (hN) Hz2.out hsum (by omega) (by omega) hc0 hf
end Go.Proofs.Ybulkdqzc.PartsC
