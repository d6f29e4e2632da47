/-
  from the tenth statement on: the known nodes
-/
import Derived.Test.YbulkdqzcCP12
namespace Go.Proofs.Ybulkdqzc.PartsC
open Go.ChangeShapes Go.WideShapes Go.ChangeAt Go.RowKit
set_option linter.unusedVariables false

/-- the known nodes, k of them laid -/
structure P11 (W wr : World) (n k : Nat) (Z : Nat → Nat → Int) (f0 : Nat → Value) : Prop where
  below : Below W.heap.size W wr
  row : wr.rowIs W.heap.size 35 (n * 10) (fun c => if c < k * 10 then ((rowN (zn Z) n)[c]?).getD undef else f0 c)

theorem p11_start {W w1 : World} {n : Nat} {Z : Nat → Nat → Int} {xs : List Value} (hown : w1.ownsRow W.heap.size 35 10 (.slice (some ⟨W.heap.size, 0, none⟩) n n) n xs) (hg : W.grownBy w1 none) : ∃ f0, P11 W w1 n 0 Z f0 := by
  obtain ⟨_, ⟨h2, _⟩ | ⟨g', c', cur, hv, _, hh, _, _, hs, _⟩⟩ := hown
  · cases h2
  · cases hv
    refine ⟨fun c => (cur[c]?).getD undef, (Below.refl _ _).grown hg (Nat.le_refl _) (fun k h => by cases h), cur, hh, hs, fun i hi => ?_⟩
    show cur[i]? = some (if i < 0 * 10 then _ else (cur[i]?).getD undef)
    rw [if_neg (by omega), Array.getElem?_eq_getElem (by omega)]
    rfl

theorem p11_step {W wr : World} {n k : Nat} {Z : Nat → Nat → Int} {f0 : Nat → Value} (h : P11 W wr n k Z f0) (hk : k < n) (o1 o2 : Obj) :
    P11 W ((((((((((((wr.setCell ⟨W.heap.size, k * 10, none⟩ (.int .i32 (wrap32 (Z k 0)))).setCell ⟨W.heap.size, k * 10 + 1, none⟩ (.int .i32 (Z k 1))).setCell ⟨W.heap.size, k * 10 + 2, none⟩ (.int .i32 (Z k 2))).setCell ⟨W.heap.size, k * 10 + 3, none⟩ (.int .i32 (Z k 3))).setCell ⟨W.heap.size, k * 10 + 4, none⟩ (.int .i32 (Z k 4))).setCell ⟨W.heap.size, k * 10 + 5, none⟩ (.int .i32 (Z k 5))).setCell ⟨W.heap.size, k * 10 + 6, none⟩ (.int .i32 (Z k 6))).setCell ⟨W.heap.size, k * 10 + 7, none⟩ (.int .u16 (Z k 7))).setCell ⟨W.heap.size, k * 10 + 8, none⟩ (.int .u8 (Z k 8))).setCell ⟨W.heap.size, k * 10 + 9, none⟩ (.int .u8 (Z k 9))).alloc o1).alloc o2) n (k + 1) Z f0 := by
  have zr := h.row.lt
  refine ⟨?_, ?_⟩
  · refine Below.alloc (Below.alloc ?_ (by simp; omega) o1) (by simp; omega) o2
    exact ((((((((((h.below.setCell (p := ⟨W.heap.size, k * 10, none⟩) (Nat.le_refl _) _).setCell (p := ⟨W.heap.size, k * 10 + 1, none⟩) (Nat.le_refl _) _).setCell (p := ⟨W.heap.size, k * 10 + 2, none⟩) (Nat.le_refl _) _).setCell (p := ⟨W.heap.size, k * 10 + 3, none⟩) (Nat.le_refl _) _).setCell (p := ⟨W.heap.size, k * 10 + 4, none⟩) (Nat.le_refl _) _).setCell (p := ⟨W.heap.size, k * 10 + 5, none⟩) (Nat.le_refl _) _).setCell (p := ⟨W.heap.size, k * 10 + 6, none⟩) (Nat.le_refl _) _).setCell (p := ⟨W.heap.size, k * 10 + 7, none⟩) (Nat.le_refl _) _).setCell (p := ⟨W.heap.size, k * 10 + 8, none⟩) (Nat.le_refl _) _).setCell (p := ⟨W.heap.size, k * 10 + 9, none⟩) (Nat.le_refl _) _)
  · refine (((((((((((((h.row.set (k * 10) _).set (k * 10 + 1) _).set (k * 10 + 2) _).set (k * 10 + 3) _).set (k * 10 + 4) _).set (k * 10 + 5) _).set (k * 10 + 6) _).set (k * 10 + 7) _).set (k * 10 + 8) _).set (k * 10 + 9) _)).alloc o1).alloc o2) |>.congr (fun c hc => ?_)
    have hg := fun j hj => rowN_get (zn Z) n k j hk hj
    rw [ncells_zn] at hg
    by_cases e1 : c < k * 10
    · rw [if_neg (by omega), if_neg (by omega), if_neg (by omega), if_neg (by omega), if_neg (by omega), if_neg (by omega), if_neg (by omega), if_neg (by omega), if_neg (by omega), if_neg (by omega), if_pos e1, if_pos (by omega)]
    · by_cases e2 : c < (k + 1) * 10
      · rw [if_pos e2]
        obtain ⟨j, rfl⟩ : ∃ j, c = k * 10 + j := ⟨c - k * 10, by omega⟩
        have hj : j < 10 := by omega
        rw [hg j hj]
        match j, hj with
        | 0, _ => simp
        | 1, _ => simp
        | 2, _ => simp
        | 3, _ => simp
        | 4, _ => simp
        | 5, _ => simp
        | 6, _ => simp
        | 7, _ => simp
        | 8, _ => simp
        | 9, _ => simp
      · rw [if_neg (by omega), if_neg (by omega), if_neg (by omega), if_neg (by omega), if_neg (by omega), if_neg (by omega), if_neg (by omega), if_neg (by omega), if_neg (by omega), if_neg (by omega), if_neg e1, if_neg e2]

set_option maxRecDepth 100000 in
set_option maxHeartbeats 4000000 in
theorem ph10 (a1 a2 a3 : Option Addr) (n1 k1 n2 k2 n3 k3 : Nat) (c0 c1 c2 c3 c4 c5 c6 c7 c8 c9 f : Int) (w : World) (Z2 : Nat → Nat → Int) (bl m cl bs bb nb cb : Nat) (S : Nat → Int) (N1 : Nat → Nat → Int) (v13 v15 : Value) (u32 u33 u34 u35 u36 u37 u38 u39 u40 u41 u42 u43 u44 u45 u46 u47 u48 u49 u50 u51 u52 u53 u54 u55 u56 u57 u58 u59 u60 u61 u62 u63 u64 u65 u66 u67 u68 u69 u70 u71 u72 u73 u74 u75 u76 u77 u78 u79 u80 u81 u82 u83 u84 u85 u86 u87 u88 u89 u90 u91 u92 u93 u94 u95 u96 u97 u98 u99 u100 u101 u102 u103 u104 u105 u106 u107 u108 u109 u110 u111 u112 u113 u114 u115 u116 u117 u118 u119 u120 u121 u122 u123 u124 u125 u126 u127 u128 u129 u130 u131 u132 u133 u134 u135 u136 u137 u138 u139 u140 u141 u142 u143 u144 u145 u146 u147 u148 u149 u150 u151 u152 u153 u154 u155 u156 u157 u158 u159 u160 u161 u162 u163 u164 u165 u166 u167 u168 u169 u170 u171 u172 u173 u174 u175 u176 u177 u178 u179 u180 u181 u182 u183 u184 u185 u186 u187 u188 u189 u190 u191 u192 u193 u194 u195 u196 u197 u198 u199 u200 u201 u202 u203 u204 u205 u206 u207 u208 u209 u210 u211 u212 u213 u214 u215 u216 u217 u218 u219 u220 u221 u222 u223 u224 u225 u226 u227 u228 u229 u230 u231 u232 u233 u234 u235 u236 u237 u238 u239 u240 u241 u242 u243 u244 u245 u246 u247 u248 u249 u250 u251 u252 u253 u254 u255 u256 u257 u258 u259 u260 u261 u262 u263 u264 u265 u266 u267 u268 u269 u270 u271 u272 u273 u274 u275 u276 u277 u278 u279 u280 u281 u282 u283 u284 u285 u286 u287 u288 u289 u290 u291 u292 u293 u294 u295 u296 u297 u298 u299 u300 u301 u302 u303 u304 u305 u306 u307 u308 u309 u310 u311 u312 u313 u314 u315 u316 u317 u318 u319 u320 u321 u322 u323 u324 u325 u326 u327 u328 u329 u330 u331 u332 u333 u334 u335 u336 u337 u338 u339 u340 u341 u342 u343 u344 u345 u346 u347 u348 u349 u350 u351 u352 u353 u354 u355 u356 u357 u358 u359 : Value) (W : World)
    (hA : EA w W bl m S (cf c0 c1 c2 c3 c4 c5 c6 c7 c8 c9)) (hB : EB W bs m S) (hN : EN W bb nb N1) (hz2 : Zs w a2 n2 Z2) (hsum : n1 + n2 + n3 ≤ 1048576) (hnb : nb ≤ n1 + 1) (hpos : 1 ≤ nb + n2) (hc0 : 0 ≤ c0 ∧ c0 ≤ 4294967295) (hf : 0 ≤ f ∧ f ≤ 4294967295) :
    Code.wp Yba.prog (tl 10 (Yba.f5.body.getD .skip)) (bodyPost Yba.prog Yba.f5 (LawPost w)) ⟨#[.slice a1 n1 k1, .slice a2 n2 k2, .slice a3 n3 k3, zv c0 c1 c2 c3 c4 c5 c6 c7 c8 c9, .int .u32 f, undef, undef, undef, .pointer (some ⟨w.heap.size, 0, none⟩), undef, .bool false, .slice (some ⟨bl, 0, none⟩) m cl, .slice (some ⟨bs, 0, none⟩) (m + 1) (m + 1), v13, .slice (some ⟨bb, 0, none⟩) nb cb, v15, undef, undef, undef, undef, undef, undef, undef, undef, undef, undef, undef, undef, undef, undef, undef, undef, u32, u33, u34, u35, u36, u37, u38, u39, u40, u41, u42, u43, u44, u45, u46, u47, u48, u49, u50, u51, u52, u53, u54, u55, u56, u57, u58, u59, u60, u61, u62, u63, u64, u65, u66, u67, u68, u69, u70, u71, u72, u73, u74, u75, u76, u77, u78, u79, u80, u81, u82, u83, u84, u85, u86, u87, u88, u89, u90, u91, u92, u93, u94, u95, u96, u97, u98, u99, u100, u101, u102, u103, u104, u105, u106, u107, u108, u109, u110, u111, u112, u113, u114, u115, u116, u117, u118, u119, u120, u121, u122, u123, u124, u125, u126, u127, u128, u129, u130, u131, u132, u133, u134, u135, u136, u137, u138, u139, u140, u141, u142, u143, u144, u145, u146, u147, u148, u149, u150, u151, u152, u153, u154, u155, u156, u157, u158, u159, u160, u161, u162, u163, u164, u165, u166, u167, u168, u169, u170, u171, u172, u173, u174, u175, u176, u177, u178, u179, u180, u181, u182, u183, u184, u185, u186, u187, u188, u189, u190, u191, u192, u193, u194, u195, u196, u197, u198, u199, u200, u201, u202, u203, u204, u205, u206, u207, u208, u209, u210, u211, u212, u213, u214, u215, u216, u217, u218, u219, u220, u221, u222, u223, u224, u225, u226, u227, u228, u229, u230, u231, u232, u233, u234, u235, u236, u237, u238, u239, u240, u241, u242, u243, u244, u245, u246, u247, u248, u249, u250, u251, u252, u253, u254, u255, u256, u257, u258, u259, u260, u261, u262, u263, u264, u265, u266, u267, u268, u269, u270, u271, u272, u273, u274, u275, u276, u277, u278, u279, u280, u281, u282, u283, u284, u285, u286, u287, u288, u289, u290, u291, u292, u293, u294, u295, u296, u297, u298, u299, u300, u301, u302, u303, u304, u305, u306, u307, u308, u309, u310, u311, u312, u313, u314, u315, u316, u317, u318, u319, u320, u321, u322, u323, u324, u325, u326, u327, u328, u329, u330, u331, u332, u333, u334, u335, u336, u337, u338, u339, u340, u341, u342, u343, u344, u345, u346, u347, u348, u349, u350, u351, u352, u353, u354, u355, u356, u357, u358, u359], []⟩ W := by
  obtain ⟨i35, hi35, hy1, hy2, hy3⟩ := info_parts info35
  have HA : Hid (EA w W bl m S (cf c0 c1 c2 c3 c4 c5 c6 c7 c8 c9)) := hA
  have HBb : Hid (EB W bs m S) := hB
  have HN : Hid (EN W bb nb N1) := hN
  have Hz2 : Hid (Zs w a2 n2 Z2) := hz2
  clear hA hB hN hz2
  conv => arg 2; whnf
  refine wp_seq_k fun K hK => ?_
  have HK : Hid _ := hK
  clear hK
  go_wp2_with (at_make; refine wpList_make_full _ rfl _ _ 33 rfl W.heap.size 35 i35 (nv 0 0 0 0 0 0 0 0 0 0) 10 Yba.underlying33 hi35 hy1 hy2 .i64 .i64 _ _ n2 rfl rfl rfl rfl (by rw [hy3]; omega) (by unfold maxLen; omega) (Nat.le_refl _) ?_; intro w1 hown1 hgrow1)
  refine HK.out _ _ ?_
  clear HK K
  obtain ⟨f0, hp0⟩ := p11_start (Z := Z2) hown1 hgrow1
  clear hown1 hgrow1
  refine wp_seq_k fun K hK => ?_
  have HK : Hid _ := hK
  clear hK
  go_wp2_with fail
  go_loopw [17] (fun i wr => ∃ k : Nat, k ≤ n2 ∧ i = .int .i64 k ∧ P11 W wr n2 k Z2 f0) (fun i _ => n2 - (intOf i).toNat)
  case atStart => exact ⟨0, by omega, rfl, hp0⟩
  case round =>
    obtain ⟨k, hk, rfl, hp⟩ := hrel
    have zr : W.heap.size < wr.heap.size := hp.row.lt
    have HP : Hid (P11 W wr n2 k Z2 f0) := hp
    by_cases hlt : k < n2
    · obtain ⟨b, o, rfl, hb, hz⟩ := (Hz2.out.mono (HA.out.below.trans (HP.out.below.mono (by have := HA.out.below.size; omega)))) k hlt
      obtain ⟨y0, y1, y2, y3, y4, y5, y6, y7, y8, y9⟩ := hz
      have x0 := hp.row.cell (i := k * 10) (by omega)
      have x1 := hp.row.cell (i := k * 10 + 1) (by omega)
      have x2 := hp.row.cell (i := k * 10 + 2) (by omega)
      have x3 := hp.row.cell (i := k * 10 + 3) (by omega)
      have x4 := hp.row.cell (i := k * 10 + 4) (by omega)
      have x5 := hp.row.cell (i := k * 10 + 5) (by omega)
      have x6 := hp.row.cell (i := k * 10 + 6) (by omega)
      have x7 := hp.row.cell (i := k * 10 + 7) (by omega)
      have x8 := hp.row.cell (i := k * 10 + 8) (by omega)
      have x9 := hp.row.cell (i := k * 10 + 9) (by omega)
      rw [if_neg (by omega)] at x0 x1 x2 x3 x4 x5 x6 x7 x8 x9
      have g0 := hp.row.frozen (k * 10)
      have g1 := hp.row.frozen (k * 10 + 1)
      have g2 := hp.row.frozen (k * 10 + 2)
      have g3 := hp.row.frozen (k * 10 + 3)
      have g4 := hp.row.frozen (k * 10 + 4)
      have g5 := hp.row.frozen (k * 10 + 5)
      have g6 := hp.row.frozen (k * 10 + 6)
      have g7 := hp.row.frozen (k * 10 + 7)
      have g8 := hp.row.frozen (k * 10 + 8)
      have g9 := hp.row.frozen (k * 10 + 9)
      have HS := fun o1 o2 => p11_step HP.out hlt o1 o2
      have HS' : Hid _ := HS
      clear HS hp
      go_wp2_with (go_at_call 8; refine (cnode_any _ _ _ _ _ _ _ _ _ _ _).mono ?_; rintro e w' ⟨rfl, rfl⟩)
      go_roundw
      case rel => exact ⟨k + 1, by omega, by go_num, HS'.out _ _⟩
      case measure => simp [intOf]; omega
    · obtain rfl : k = n2 := by omega
      have hM : EN wr W.heap.size k (zn Z2) := ⟨fun c hc => by
        rw [hp.row.cell hc, if_pos hc, List.getElem?_eq_getElem (by rw [rowN_length]; exact hc)]
        rfl, zr⟩
      clear hk hlt hp
      go_wp2_with fail
      refine HK.out _ _ ?_
      exact ph12 a1 a2 a3 n1 k1 _ k2 n3 k3 c0 c1 c2 c3 c4 c5 c6 c7 c8 c9 f w bl m cl bs bb nb cb W.heap.size S N1 (zn Z2) _ _ _ _ _ _ _ _ _ _ _ _ _ _ _ _ _ _ _ _ _ _ _ _ _ _ _ _ _ _ _ _ _ _ _ _ _ _ _ _ _ _ _ _ _ _ _ _ _ _ _ _ _ _ _ _ _ _ _ _ _ _ _ _ _ _ _ _ _ _ _ _ _ _ _ _ _ _ _ _ _ _ _ _ _ _ _ _ _ _ _ _ _ _ _ _ _ _ _ _ _ _ _ _ _ _ _ _ _ _ _ _ _ _ _ _ _ _ _ _ _ _ _ _ _ _ _ _ _ _ _ _ _ _ _ _ _ _ _ _ _ _ _ _ _ _ _ _ _ _ _ _ _ _ _ _ _ _ _ _ _ _ _ _ _ _ _ _ _ _ _ _ _ _ _ _ _ _ _ _ _ _ _ _ _ _ _ _ _ _ _ _ _ _ _ _ _ _ _ _ _ _ _ _ _ _ _ _ _ _ _ _ _ _ _ _ _ _ _ _ _ _ _ _ _ _ _ _ _ _ _ _ _ _ _ _ _ _ _ _ _ _ _ _ _ _ _ _ _ _ _ _ _ _ _ _ _ _ _ _ _ _ _ _ _ _ _ _ _ _ _ _ _ _ _ _ _ _ _ _ _ _ _ _ _ _ _ _ _ _ _ _ _ _ _ _ _ _ _ _ _ _ _ _ _ _ _ _ _ _ _ _ _ _ _ _ _ _ _ _ _ _ _ _ _ _ _ _ _ _ _ _ (HA.out.mono HP.out.below) (HBb.out.mono HP.out.below) (HN.out.mono HP.out.below) hM hsum hnb hpos hc0 hf
end Go.Proofs.Ybulkdqzc.PartsC
