/-
  from the twelfth statement on: the copies
-/
import Derived.Test.YbulkdqzcCP16
namespace Go.Proofs.Ybulkdqzc.PartsC
open Go.ChangeShapes Go.WideShapes Go.ChangeAt Go.RowKit
set_option linter.unusedVariables false

theorem wpList_copy_nodes {P : Program} {w : World} {ops : Array Oper} {rest : List Oper} {o : Oper} {a : Act} {Q : Exit → Act → World → Prop} (hgd : o.guard = none) (d s : Operand) (dT sT : TypeId)
    (ho : o.op = .call { callee := .builtin .copy, args := #[d, s], argTypes := #[dT, sT] }) (elem : TypeId) (hu : P.underlying dT = some (.slice elem)) (i : TypeInfo) (hi : P.info? elem = some i) (hsz : i.size = 10)
    (g n c sb sc : Nat) (hd : a.eval d = .slice (some ⟨g, 0, none⟩) n c) (hs : a.eval s = .slice (some ⟨sb, 0, none⟩) n sc)
    (cur : Array Value) (t : TypeId) (hg : w.heap[g]? = some (.cells cur t (0, 0))) (hcs : cur.size = n * 10) (N : Nat → Nat → Int) (hN : EN w sb n N)
    (h : wpList P ops Q rest (a.put o.dst (goInt n)) (w.setRow g (rowN N n).toArray)) : wpList P ops Q (o :: rest) a w := by
  refine wpList_plain hgd fun K hK => ?_
  have hl := run_firstCells_some (P := P) w 10 n ⟨sb, 0, none⟩ n sc (rowN N n) (rowN_length N n) (fun j v hv => by
    have hj : j < n * 10 := by
      rw [← rowN_length N n]
      rcases Nat.lt_or_ge j (rowN N n).length with h' | h'
      · exact h'
      · rw [List.getElem?_eq_none h'] at hv; cases hv
    rw [add_at, Nat.zero_add]
    exact (hN.row j hj).trans hv)
  have hst := run_storeCells_at P g 0 t (rowN N n) 0 cur w hg (by rw [rowN_length, hcs]; omega) (rowN_one N n)
  have hdr : cur.toList.drop (n * 10) = [] := List.drop_eq_nil_of_le (by simp [hcs])
  simp only [Nat.zero_add, List.take_zero, List.nil_append, rowN_length, hdr, List.append_nil] at hst
  have hrun : (Builtin.copy_ #[dT, sT] o.type #[.slice (some ⟨g, 0, none⟩) n c, .slice (some ⟨sb, 0, none⟩) n sc]).run P w = .ok (goInt n) (w.setRow g (rowN N n).toArray) := by
    simp [Builtin.copy_, run_underlying hu, Builtin.lenOf, sizeOf, typeInfo, hi, hsz, hl, hst]
  unfold Oper.wp
  simp [execOp, ho, resolve, invoke, builtin, hd, hs, hrun, Result.andThen]
  exact hK _ _ h

theorem en_copied {w : World} {g n : Nat} {N : Nat → Nat → Int} {cur : Array Value} {t : TypeId} (hg : w.heap[g]? = some (.cells cur t (0, 0))) : EN (w.setRow g (rowN N n).toArray) g n N := by
  have h := setRow_heap w g cur (rowN N n).toArray t _ hg
  refine ⟨fun c hc => ?_, (Array.getElem?_eq_some_iff.1 h).1⟩
  simp only [World.cell?, h]
  simp

theorem own_cur {W w1 : World} {n : Nat} {xs : List Value} (hown : w1.ownsRow W.heap.size 35 10 (.slice (some ⟨W.heap.size, 0, none⟩) n n) n xs) : ∃ cur : Array Value, w1.heap[W.heap.size]? = some (.cells cur 35 (0, 0)) ∧ cur.size = n * 10 := by
  obtain ⟨_, ⟨h2, _⟩ | ⟨g', c', cur, hv, _, hh, _, _, hs, _⟩⟩ := hown
  · cases h2
  · cases hv
    exact ⟨cur, hh, hs⟩

set_option maxRecDepth 100000 in
set_option maxHeartbeats 4000000 in
theorem ph12 (a1 a2 a3 : Option Addr) (n1 k1 n2 k2 n3 k3 : Nat) (c0 c1 c2 c3 c4 c5 c6 c7 c8 c9 f : Int) (w : World) (bl m cl bs bb nb cb bt : Nat) (S : Nat → Int) (N1 N2 : Nat → Nat → Int) (v13 v15 v17 : Value) (u32 u33 u34 u35 u36 u37 u38 u39 u40 u41 u42 u43 u44 u45 u46 u47 u48 u49 u50 u51 u52 u53 u54 u55 u56 u57 u58 u59 u60 u61 u62 u63 u64 u65 u66 u67 u68 u69 u70 u71 u72 u73 u74 u75 u76 u77 u78 u79 u80 u81 u82 u83 u84 u85 u86 u87 u88 u89 u90 u91 u92 u93 u94 u95 u96 u97 u98 u99 u100 u101 u102 u103 u104 u105 u106 u107 u108 u109 u110 u111 u112 u113 u114 u115 u116 u117 u118 u119 u120 u121 u122 u123 u124 u125 u126 u127 u128 u129 u130 u131 u132 u133 u134 u135 u136 u137 u138 u139 u140 u141 u142 u143 u144 u145 u146 u147 u148 u149 u150 u151 u152 u153 u154 u155 u156 u157 u158 u159 u160 u161 u162 u163 u164 u165 u166 u167 u168 u169 u170 u171 u172 u173 u174 u175 u176 u177 u178 u179 u180 u181 u182 u183 u184 u185 u186 u187 u188 u189 u190 u191 u192 u193 u194 u195 u196 u197 u198 u199 u200 u201 u202 u203 u204 u205 u206 u207 u208 u209 u210 u211 u212 u213 u214 u215 u216 u217 u218 u219 u220 u221 u222 u223 u224 u225 u226 u227 u228 u229 u230 u231 u232 u233 u234 u235 u236 u237 u238 u239 u240 u241 u242 u243 u244 u245 u246 u247 u248 u249 u250 u251 u252 u253 u254 u255 u256 u257 u258 u259 u260 u261 u262 u263 u264 u265 u266 u267 u268 u269 u270 u271 u272 u273 u274 u275 u276 u277 u278 u279 u280 u281 u282 u283 u284 u285 u286 u287 u288 u289 u290 u291 u292 u293 u294 u295 u296 u297 u298 u299 u300 u301 u302 u303 u304 u305 u306 u307 u308 u309 u310 u311 u312 u313 u314 u315 u316 u317 u318 u319 u320 u321 u322 u323 u324 u325 u326 u327 u328 u329 u330 u331 u332 u333 u334 u335 u336 u337 u338 u339 u340 u341 u342 u343 u344 u345 u346 u347 u348 u349 u350 u351 u352 u353 u354 u355 u356 u357 u358 u359 : Value) (W : World)
    (hA : EA w W bl m S (cf c0 c1 c2 c3 c4 c5 c6 c7 c8 c9)) (hB : EB W bs m S) (hN : EN W bb nb N1) (hM : EN W bt n2 N2) (hsum : n1 + n2 + n3 ≤ 1048576) (hnb : nb ≤ n1 + 1) (hpos : 1 ≤ nb + n2) (hc0 : 0 ≤ c0 ∧ c0 ≤ 4294967295) (hf : 0 ≤ f ∧ f ≤ 4294967295) :
    Code.wp Yba.prog (tl 12 (Yba.f5.body.getD .skip)) (bodyPost Yba.prog Yba.f5 (LawPost w)) ⟨#[.slice a1 n1 k1, .slice a2 n2 k2, .slice a3 n3 k3, zv c0 c1 c2 c3 c4 c5 c6 c7 c8 c9, .int .u32 f, undef, undef, undef, .pointer (some ⟨w.heap.size, 0, none⟩), undef, .bool false, .slice (some ⟨bl, 0, none⟩) m cl, .slice (some ⟨bs, 0, none⟩) (m + 1) (m + 1), v13, .slice (some ⟨bb, 0, none⟩) nb cb, v15, .slice (some ⟨bt, 0, none⟩) n2 n2, v17, undef, undef, undef, undef, undef, undef, undef, undef, undef, undef, undef, undef, undef, undef, u32, u33, u34, u35, u36, u37, u38, u39, u40, u41, u42, u43, u44, u45, u46, u47, u48, u49, u50, u51, u52, u53, u54, u55, u56, u57, u58, u59, u60, u61, u62, u63, u64, u65, u66, u67, u68, u69, u70, u71, u72, u73, u74, u75, u76, u77, u78, u79, u80, u81, u82, u83, u84, u85, u86, u87, u88, u89, u90, u91, u92, u93, u94, u95, u96, u97, u98, u99, u100, u101, u102, u103, u104, u105, u106, u107, u108, u109, u110, u111, u112, u113, u114, u115, u116, u117, u118, u119, u120, u121, u122, u123, u124, u125, u126, u127, u128, u129, u130, u131, u132, u133, u134, u135, u136, u137, u138, u139, u140, u141, u142, u143, u144, u145, u146, u147, u148, u149, u150, u151, u152, u153, u154, u155, u156, u157, u158, u159, u160, u161, u162, u163, u164, u165, u166, u167, u168, u169, u170, u171, u172, u173, u174, u175, u176, u177, u178, u179, u180, u181, u182, u183, u184, u185, u186, u187, u188, u189, u190, u191, u192, u193, u194, u195, u196, u197, u198, u199, u200, u201, u202, u203, u204, u205, u206, u207, u208, u209, u210, u211, u212, u213, u214, u215, u216, u217, u218, u219, u220, u221, u222, u223, u224, u225, u226, u227, u228, u229, u230, u231, u232, u233, u234, u235, u236, u237, u238, u239, u240, u241, u242, u243, u244, u245, u246, u247, u248, u249, u250, u251, u252, u253, u254, u255, u256, u257, u258, u259, u260, u261, u262, u263, u264, u265, u266, u267, u268, u269, u270, u271, u272, u273, u274, u275, u276, u277, u278, u279, u280, u281, u282, u283, u284, u285, u286, u287, u288, u289, u290, u291, u292, u293, u294, u295, u296, u297, u298, u299, u300, u301, u302, u303, u304, u305, u306, u307, u308, u309, u310, u311, u312, u313, u314, u315, u316, u317, u318, u319, u320, u321, u322, u323, u324, u325, u326, u327, u328, u329, u330, u331, u332, u333, u334, u335, u336, u337, u338, u339, u340, u341, u342, u343, u344, u345, u346, u347, u348, u349, u350, u351, u352, u353, u354, u355, u356, u357, u358, u359], []⟩ W := by
  obtain ⟨i35, hi35, hy1, hy2, hy3⟩ := info_parts info35
  have HA : Hid (EA w W bl m S (cf c0 c1 c2 c3 c4 c5 c6 c7 c8 c9)) := hA
  have HBb : Hid (EB W bs m S) := hB
  have HN : Hid (EN W bb nb N1) := hN
  have HM : Hid (EN W bt n2 N2) := hM
  clear hA hB hN hM
  conv => arg 2; whnf
  refine wp_seq_k fun K hK => ?_
  have HK : Hid _ := hK
  clear hK
  go_wp2_with (at_make; refine wpList_make_full _ rfl _ _ 33 rfl W.heap.size 35 i35 (nv 0 0 0 0 0 0 0 0 0 0) 10 Yba.underlying33 hi35 hy1 hy2 .i64 .i64 _ _ nb rfl rfl rfl rfl (by rw [hy3]; omega) (by unfold maxLen; omega) (Nat.le_refl _) ?_; intro w1 hown1 hgrow1)
  refine HK.out _ _ ?_
  clear HK K
  obtain ⟨cur1, hcur1, hs1⟩ := own_cur hown1
  have hb1 : Below W.heap.size W w1 := (Below.refl _ _).grown hgrow1 (Nat.le_refl _) (fun k h => by cases h)
  clear hown1 hgrow1
  refine wp_seq_k fun K hK => ?_
  have HK : Hid _ := hK
  clear hK
  go_wp2_with (refine wpList_copy_nodes rfl (.tmp 126) (.tmp 127) 33 33 rfl 35 Yba.underlying33 i35 hi35 hy2 W.heap.size nb nb bb cb rfl rfl cur1 35 hcur1 hs1 N1 (HN.out.mono hb1) ?_)
  refine HK.out _ _ ?_
  clear HK K
  have hC : EN (w1.setRow W.heap.size (rowN N1 nb).toArray) W.heap.size nb N1 := en_copied hcur1
  have hbv : Below W.heap.size W (w1.setRow W.heap.size (rowN N1 nb).toArray) := below_setRow hb1 (Nat.le_refl _) _
  generalize w1.setRow W.heap.size (rowN N1 nb).toArray = V at hC hbv ⊢
  clear hb1 hcur1 hs1
  have HC : Hid (EN V W.heap.size nb N1) := hC
  have HBV : Hid (Below W.heap.size W V) := hbv
  clear hC hbv
  refine wp_seq_k fun K hK => ?_
  have HK : Hid _ := hK
  clear hK
  go_wp2_with (at_make; refine wpList_make_full _ rfl _ _ 33 rfl V.heap.size 35 i35 (nv 0 0 0 0 0 0 0 0 0 0) 10 Yba.underlying33 hi35 hy1 hy2 .i64 .i64 _ _ n2 rfl rfl rfl rfl (by rw [hy3]; omega) (by unfold maxLen; omega) (Nat.le_refl _) ?_; intro w2 hown2 hgrow2)
  refine HK.out _ _ ?_
  clear HK K
  obtain ⟨cur2, hcur2, hs2⟩ := own_cur hown2
  have hb2' : Below V.heap.size V w2 := (Below.refl _ _).grown hgrow2 (Nat.le_refl _) (fun k h => by cases h)
  have zV := HBV.out.size
  clear hown2 hgrow2
  refine wp_seq_k fun K hK => ?_
  have HK : Hid _ := hK
  clear hK
  go_wp2_with (refine wpList_copy_nodes rfl (.tmp 132) (.tmp 133) 33 33 rfl 35 Yba.underlying33 i35 hi35 hy2 V.heap.size n2 n2 bt n2 rfl rfl cur2 35 hcur2 hs2 N2 ((HM.out.mono HBV.out).mono hb2') ?_)
  refine HK.out _ _ ?_
  clear HK K
  have hb2 : Below V.heap.size V (w2.setRow V.heap.size (rowN N2 n2).toArray) := below_setRow hb2' (Nat.le_refl _) _
  have hb3 := HBV.out.trans (hb2.mono zV)
  exact ph16 a1 a2 a3 n1 k1 n2 k2 n3 k3 c0 c1 c2 c3 c4 c5 c6 c7 c8 c9 f w bl m cl bs bb nb cb bt _ _ S N1 N2 _ _ _ _ _ _ _ _ _ _ _ _ _ _ _ _ _ _ _ _ _ _ _ _ _ _ _ _ _ _ _ _ _ _ _ _ _ _ _ _ _ _ _ _ _ _ _ _ _ _ _ _ _ _ _ _ _ _ _ _ _ _ _ _ _ _ _ _ _ _ _ _ _ _ _ _ _ _ _ _ _ _ _ _ _ _ _ _ _ _ _ _ _ _ _ _ _ _ _ _ _ _ _ _ _ _ _ _ _ _ _ _ _ _ _ _ _ _ _ _ _ _ _ _ _ _ _ _ _ _ _ _ _ _ _ _ _ _ _ _ _ _ _ _ _ _ _ _ _ _ _ _ _ _ _ _ _ _ _ _ _ _ _ _ _ _ _ _ _ _ _ _ _ _ _ _ _ _ _ _ _ _ _ _ _ _ _ _ _ _ _ _ _ _ _ _ _ _ _ _ _ _ _ _ _ _ _ _ _ _ _ _ _ _ _ _ _ _ _ _ _ _ _ _ _ _ _ _ _ _ _ _ _ _ _ _ _ _ _ _ _ _ _ _ _ _ _ _ _ _ _ _ _ _ _ _ _ _ _ _ _ _ _ _ _ _ _ _ _ _ _ _ _ _ _ _ _ _ _ _ _ _ _ _ _ _ _ _ _ _ _ _ _ _ _ _ _ _ _ _ _ _ _ _ _ _ _ _ _ _ _ _ _ _ _ _ _ _ _ _ _ _ _ _ _ _ _ _ _ _ _ _ (HA.out.mono hb3) (HBb.out.mono hb3) (HN.out.mono hb3) (HM.out.mono hb3) (HC.out.mono hb2) (en_copied hcur2) hsum hnb hpos hc0 hf
end Go.Proofs.Ybulkdqzc.PartsC
