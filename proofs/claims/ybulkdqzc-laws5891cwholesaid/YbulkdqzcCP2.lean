/-
  from the second statement on: the lengths
-/
import Derived.Test.YbulkdqzcCP5
namespace Go.Proofs.Ybulkdqzc.PartsC
open Go.ChangeShapes Go.WideShapes Go.ChangeAt Go.RowKit
set_option linter.unusedVariables false

theorem ea_of {w w0 wc : World} {m : Nat} {S C : Nat → Int} (hb0 : Below w.heap.size w w0) (hbox : Z10 w0 w.heap.size 0 C) (z0 : w0.heap.size = w.heap.size + 1) (h : P1 w0 wc (w.heap.size + 1) m S) : EA w wc (w.heap.size + 1) m S C := by
  have z := h.below.size
  exact ⟨hb0.trans (h.below.mono (by omega)), hbox.mono (h.below.block _ (by omega)), by omega, h.cells, h.u8, h.lt, h.pos⟩

theorem zobj_at {W : World} {b : Nat} {c0 c1 c2 c3 c4 c5 c6 c7 c8 c9 : Int} (h : W.heap[b]? = some (zobj c0 c1 c2 c3 c4 c5 c6 c7 c8 c9)) : Z10 W b 0 (cf c0 c1 c2 c3 c4 c5 c6 c7 c8 c9) := by
  refine ⟨?_, ?_, ?_, ?_, ?_, ?_, ?_, ?_, ?_, ?_⟩ <;> simp [World.cell?, h, cf]

set_option maxRecDepth 100000 in
set_option maxHeartbeats 4000000 in
theorem ph2 (a1 a2 a3 : Option Addr) (n1 k1 n2 k2 n3 k3 : Nat) (c0 c1 c2 c3 c4 c5 c6 c7 c8 c9 f : Int) (w : World) (Z1 Z2 : Nat → Nat → Int) (S0 : Nat → Int) (u32 u33 u34 u35 u36 u37 u38 u39 u40 u41 u42 u43 u44 u45 u46 u47 u48 u49 u50 u51 u52 u53 u54 u55 u56 u57 u58 u59 u60 u61 u62 u63 u64 u65 u66 u67 u68 u69 u70 u71 u72 u73 u74 u75 u76 u77 u78 u79 u80 u81 u82 u83 u84 u85 u86 u87 u88 u89 u90 u91 u92 u93 u94 u95 u96 u97 u98 u99 u100 u101 u102 u103 u104 u105 u106 u107 u108 u109 u110 u111 u112 u113 u114 u115 u116 u117 u118 u119 u120 u121 u122 u123 u124 u125 u126 u127 u128 u129 u130 u131 u132 u133 u134 u135 u136 u137 u138 u139 u140 u141 u142 u143 u144 u145 u146 u147 u148 u149 u150 u151 u152 u153 u154 u155 u156 u157 u158 u159 u160 u161 u162 u163 u164 u165 u166 u167 u168 u169 u170 u171 u172 u173 u174 u175 u176 u177 u178 u179 u180 u181 u182 u183 u184 u185 u186 u187 u188 u189 u190 u191 u192 u193 u194 u195 u196 u197 u198 u199 u200 u201 u202 u203 u204 u205 u206 u207 u208 u209 u210 u211 u212 u213 u214 u215 u216 u217 u218 u219 u220 u221 u222 u223 u224 u225 u226 u227 u228 u229 u230 u231 u232 u233 u234 u235 u236 u237 u238 u239 u240 u241 u242 u243 u244 u245 u246 u247 u248 u249 u250 u251 u252 u253 u254 u255 u256 u257 u258 u259 u260 u261 u262 u263 u264 u265 u266 u267 u268 u269 u270 u271 u272 u273 u274 u275 u276 u277 u278 u279 u280 u281 u282 u283 u284 u285 u286 u287 u288 u289 u290 u291 u292 u293 u294 u295 u296 u297 u298 u299 u300 u301 u302 u303 u304 u305 u306 u307 u308 u309 u310 u311 u312 u313 u314 u315 u316 u317 u318 u319 u320 u321 u322 u323 u324 u325 u326 u327 u328 u329 u330 u331 u332 u333 u334 u335 u336 u337 u338 u339 u340 u341 u342 u343 u344 u345 u346 u347 u348 u349 u350 u351 u352 u353 u354 u355 u356 u357 u358 u359 : Value) (w0 : World)
    (hb0 : Below w.heap.size w w0) (hbox : Z10 w0 w.heap.size 0 (cf c0 c1 c2 c3 c4 c5 c6 c7 c8 c9)) (z0 : w0.heap.size = w.heap.size + 1) (hs : Bs w a3 n3 S0) (hn : a3 = none → n3 = 0 ∧ k3 = 0) (hz1 : Zs w a1 n1 Z1) (hz2 : Zs w a2 n2 Z2) (hsum : n1 + n2 + n3 ≤ 1048576) (hc0 : 0 ≤ c0 ∧ c0 ≤ 4294967295) (hf : 0 ≤ f ∧ f ≤ 4294967295) :
    Code.wp Yba.prog (tl 2 (Yba.f5.body.getD .skip)) (bodyPost Yba.prog Yba.f5 (LawPost w)) ⟨#[.slice a1 n1 k1, .slice a2 n2 k2, .slice a3 n3 k3, zv c0 c1 c2 c3 c4 c5 c6 c7 c8 c9, .int .u32 f, undef, undef, undef, .pointer (some ⟨w.heap.size, 0, none⟩), undef, .bool false, undef, undef, undef, undef, undef, undef, undef, undef, undef, undef, undef, undef, undef, undef, undef, undef, undef, undef, undef, undef, undef, u32, u33, u34, u35, u36, u37, u38, u39, u40, u41, u42, u43, u44, u45, u46, u47, u48, u49, u50, u51, u52, u53, u54, u55, u56, u57, u58, u59, u60, u61, u62, u63, u64, u65, u66, u67, u68, u69, u70, u71, u72, u73, u74, u75, u76, u77, u78, u79, u80, u81, u82, u83, u84, u85, u86, u87, u88, u89, u90, u91, u92, u93, u94, u95, u96, u97, u98, u99, u100, u101, u102, u103, u104, u105, u106, u107, u108, u109, u110, u111, u112, u113, u114, u115, u116, u117, u118, u119, u120, u121, u122, u123, u124, u125, u126, u127, u128, u129, u130, u131, u132, u133, u134, u135, u136, u137, u138, u139, u140, u141, u142, u143, u144, u145, u146, u147, u148, u149, u150, u151, u152, u153, u154, u155, u156, u157, u158, u159, u160, u161, u162, u163, u164, u165, u166, u167, u168, u169, u170, u171, u172, u173, u174, u175, u176, u177, u178, u179, u180, u181, u182, u183, u184, u185, u186, u187, u188, u189, u190, u191, u192, u193, u194, u195, u196, u197, u198, u199, u200, u201, u202, u203, u204, u205, u206, u207, u208, u209, u210, u211, u212, u213, u214, u215, u216, u217, u218, u219, u220, u221, u222, u223, u224, u225, u226, u227, u228, u229, u230, u231, u232, u233, u234, u235, u236, u237, u238, u239, u240, u241, u242, u243, u244, u245, u246, u247, u248, u249, u250, u251, u252, u253, u254, u255, u256, u257, u258, u259, u260, u261, u262, u263, u264, u265, u266, u267, u268, u269, u270, u271, u272, u273, u274, u275, u276, u277, u278, u279, u280, u281, u282, u283, u284, u285, u286, u287, u288, u289, u290, u291, u292, u293, u294, u295, u296, u297, u298, u299, u300, u301, u302, u303, u304, u305, u306, u307, u308, u309, u310, u311, u312, u313, u314, u315, u316, u317, u318, u319, u320, u321, u322, u323, u324, u325, u326, u327, u328, u329, u330, u331, u332, u333, u334, u335, u336, u337, u338, u339, u340, u341, u342, u343, u344, u345, u346, u347, u348, u349, u350, u351, u352, u353, u354, u355, u356, u357, u358, u359], []⟩ w0 := by
  obtain ⟨i5, hi5, hy1, hy2, hy3⟩ := info_parts info5
  have B0 : (n3 : Int) ≤ 1048576 := by omega
  have Hs : Hid (Bs w a3 n3 S0) := hs
  have Hz1 : Hid (Zs w a1 n1 Z1) := hz1
  have Hz2 : Hid (Zs w a2 n2 Z2) := hz2
  have Hn : Hid (a3 = none → n3 = 0 ∧ k3 = 0) := hn
  have Hb0 : Hid (Below w.heap.size w w0) := hb0
  have Hbox : Hid (Z10 w0 w.heap.size 0 (cf c0 c1 c2 c3 c4 c5 c6 c7 c8 c9)) := hbox
  clear hs hz1 hz2 hn hb0 hbox
  conv => arg 2; whnf
  refine wp_seq_k fun K hK => ?_
  have HK : Hid _ := hK
  clear hK
  go_wp2_with (at_make; refine wpList_make_own _ rfl _ _ 27 rfl w0.heap.size 5 i5 (.int .u8 0) 1 Yba.underlying27 hi5 hy1 hy2 .i64 .i64 _ (n3 + 1) rfl rfl (by omega) (by rw [hy3]; omega) (by unfold maxLen; omega) (Nat.le_refl _) ?_; intro w1 hown1 hgrow1; have HL1 : Hid (∀ ad, a3 = some ad → ∀ j u, (u8s S0 n3)[j]? = some u → w1.cell? (ad.add j) = some u) := p1_src Hs.out Hb0.out hgrow1 (by omega); rw [z0] at hown1)
  refine HK.out _ _ ?_
  clear HK K
  refine wp_seq_k fun K hK => ?_
  have HK : Hid _ := hK
  clear hK
  go_wp2_with (at_builtin; refine wpList_append_fits_any _ rfl (.tmp 45) (.tmp 46) 27 rfl (w.heap.size + 1) 5 i5 1 Yba.underlying27 hi5 hy2 (w.heap.size + 1) 0 (n3 + 1) [] (by simp [Act.eval]) hown1 a3 n3 k3 (u8s S0 n3) rfl (by rw [u8s_length]; omega) Hn.out HL1.out (u8s_one _ _) (by omega) ?_; intro w2 hown2 hgrow2)
  simp only [Nat.zero_add, List.nil_append] at hown2
  have hb2 : Below w0.heap.size w0 w2 := ((Below.refl _ _).grown hgrow1 (Nat.le_refl _) (fun k h => by cases h)).grown hgrow2 hgrow1.size (fun k h => by cases h; omega)
  have Hb2 : Hid (Below w0.heap.size w0 w2) := hb2
  have zz2 : w.heap.size + 1 < w2.heap.size := own_lt hown2
  clear hb2 hgrow1 hgrow2 hown1 HL1
  refine HK.out _ _ ?_
  clear HK K
  refine wp_seq_k fun K hK => ?_
  have HK : Hid _ := hK
  clear hK
  by_cases h0 : n3 = 0
  · subst h0
    go_wp2_with (at_builtin; refine wpList_append_fits _ rfl (.tmp 51) (.tmp 52) 27 rfl (w.heap.size + 1) 5 i5 1 Yba.underlying27 hi5 hy2 (w.heap.size + 1) 0 1 [] rfl (hown2.alloc _) ⟨w2.heap.size, 0, none⟩ 1 1 [.int .u8 1] rfl rfl (news_at w2 [.int .u8 1] 5) one8 (by omega) ?_; intro w3 hown3 hgrow3)
    have h3 : P1 w0 w3 (w.heap.size + 1) 1 (fun _ => 1) := p1_full ((Hb2.out.alloc (by omega) _).grown hgrow3 (by simp; omega) (fun k h => by cases h; omega)) (by rw [z0, show u8s (fun _ => 1) 1 = [.int .u8 1] from rfl]; simpa using hown3) (fun i hi => by omega) (by omega)
    have H3 : Hid _ := h3
    clear h3 hown3 hgrow3 hown2
    refine HK.out _ _ ?_
    exact ph5 a1 a2 a3 n1 k1 n2 k2 _ k3 c0 c1 c2 c3 c4 c5 c6 c7 c8 c9 f w Z1 Z2 (w.heap.size + 1) 1 _ (fun _ => 1) _ _ _ _ _ _ _ _ _ _ _ _ _ _ _ _ _ _ _ _ _ _ _ _ _ _ _ _ _ _ _ _ _ _ _ _ _ _ _ _ _ _ _ _ _ _ _ _ _ _ _ _ _ _ _ _ _ _ _ _ _ _ _ _ _ _ _ _ _ _ _ _ _ _ _ _ _ _ _ _ _ _ _ _ _ _ _ _ _ _ _ _ _ _ _ _ _ _ _ _ _ _ _ _ _ _ _ _ _ _ _ _ _ _ _ _ _ _ _ _ _ _ _ _ _ _ _ _ _ _ _ _ _ _ _ _ _ _ _ _ _ _ _ _ _ _ _ _ _ _ _ _ _ _ _ _ _ _ _ _ _ _ _ _ _ _ _ _ _ _ _ _ _ _ _ _ _ _ _ _ _ _ _ _ _ _ _ _ _ _ _ _ _ _ _ _ _ _ _ _ _ _ _ _ _ _ _ _ _ _ _ _ _ _ _ _ _ _ _ _ _ _ _ _ _ _ _ _ _ _ _ _ _ _ _ _ _ _ _ _ _ _ _ _ _ _ _ _ _ _ _ _ _ _ _ _ _ _ _ _ _ _ _ _ _ _ _ _ _ _ _ _ _ _ _ _ _ _ _ _ _ _ _ _ _ _ _ _ _ _ _ _ _ _ _ _ _ _ _ _ _ _ _ _ _ _ _ _ _ _ _ _ _ _ _ _ _ _ _ _ _ _ _ _ _ _ _ _ _ (ea_of Hb0.out Hbox.out z0 H3.out) Hz1.out Hz2.out hsum hc0 hf
  · have h0' : ((n3 : Int) == 0) = false := by rw [beq_eq_false_iff_ne]; omega
    have h3 : P1 w0 w2 (w.heap.size + 1) n3 S0 := p1_full Hb2.out (by rw [z0]; exact hown2) (fun i hi => by obtain ⟨_, _, _, _, _, h⟩ := Hs.out i hi; exact h) (by omega)
    have H3 : Hid _ := h3
    clear h3 hown2
    go_wp2_with fail
    refine HK.out _ _ ?_
    exact ph5 a1 a2 a3 n1 k1 n2 k2 _ k3 c0 c1 c2 c3 c4 c5 c6 c7 c8 c9 f w Z1 Z2 (w.heap.size + 1) n3 _ S0 _ _ _ _ _ _ _ _ _ _ _ _ _ _ _ _ _ _ _ _ _ _ _ _ _ _ _ _ _ _ _ _ _ _ _ _ _ _ _ _ _ _ _ _ _ _ _ _ _ _ _ _ _ _ _ _ _ _ _ _ _ _ _ _ _ _ _ _ _ _ _ _ _ _ _ _ _ _ _ _ _ _ _ _ _ _ _ _ _ _ _ _ _ _ _ _ _ _ _ _ _ _ _ _ _ _ _ _ _ _ _ _ _ _ _ _ _ _ _ _ _ _ _ _ _ _ _ _ _ _ _ _ _ _ _ _ _ _ _ _ _ _ _ _ _ _ _ _ _ _ _ _ _ _ _ _ _ _ _ _ _ _ _ _ _ _ _ _ _ _ _ _ _ _ _ _ _ _ _ _ _ _ _ _ _ _ _ _ _ _ _ _ _ _ _ _ _ _ _ _ _ _ _ _ _ _ _ _ _ _ _ _ _ _ _ _ _ _ _ _ _ _ _ _ _ _ _ _ _ _ _ _ _ _ _ _ _ _ _ _ _ _ _ _ _ _ _ _ _ _ _ _ _ _ _ _ _ _ _ _ _ _ _ _ _ _ _ _ _ _ _ _ _ _ _ _ _ _ _ _ _ _ _ _ _ _ _ _ _ _ _ _ _ _ _ _ _ _ _ _ _ _ _ _ _ _ _ _ _ _ _ _ _ _ _ _ _ _ _ _ _ _ _ _ _ _ _ _ _ (ea_of Hb0.out Hbox.out z0 H3.out) Hz1.out Hz2.out hsum hc0 hf
end Go.Proofs.Ybulkdqzc.PartsC
