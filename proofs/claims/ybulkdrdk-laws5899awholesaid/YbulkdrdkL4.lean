/-
  the law, from its fourth statement on
-/
import Derived.Test.YbulkdrdkL7
namespace Go.Proofs.Ybulkdrdk.Parts
open Go.ChangeShapes Go.WideShapes Go.ChangeAt Go.RowKit
set_option linter.unusedVariables false

theorem info9 : (Yba.prog.info? 9).map (fun i => (i.zero, i.size, i.bytes)) = some (some (.string ⟨#[]⟩), 1, 16) := by kernel_rfl
theorem info30 : (Yba.prog.info? 30).map (fun i => (i.zero, i.size, i.bytes)) = some (some (.agg #[.slice none 0 0, .slice none 0 0]), 2, 48) := by kernel_rfl

theorem own_row {B : Nat} {w1 : World} {n size e : Nat} {xs : List Value} (hown : w1.ownsRow B e size (.slice (some ⟨B, 0, none⟩) n n) n xs) : ∃ f, w1.rowIs B e (n * size) f := by
  obtain ⟨_, ⟨h2, _⟩ | ⟨g', c', cur, hv, _, hh, _, _, hs, _⟩⟩ := hown
  · cases h2
  · cases hv
    refine ⟨fun c => (cur[c]?).getD undef, cur, hh, hs, fun i hi => ?_⟩
    show cur[i]? = some ((cur[i]?).getD undef)
    rw [Array.getElem?_eq_getElem (by omega)]
    rfl

theorem l2_start {w W W1 W2 W3 : World} {n : Nat} {Ns : Nat → ByteArray} {f1 f2 f3 : Nat → Value} (hb : Below w.heap.size w W) (h1 : Below W.heap.size W W1) (h2 : Below W1.heap.size W1 W2) (h3 : Below W2.heap.size W2 W3)
    (r1 : W1.rowIs W.heap.size 9 n f1) (r2 : W2.rowIs W1.heap.size 9 n f2) (r3 : W3.rowIs W2.heap.size 30 (n * 2) f3) :
    L2 w W3 W.heap.size W1.heap.size W2.heap.size n 0 0 0 Ns Ns (fun _ => 0) (fun _ => 0) (fun _ => 0) (fun _ => 0) f1 f2 f3 := by
  have z1 := r1.lt
  have z2 := r2.lt
  have z3 := r3.lt
  have y0 := hb.size
  have y2 := h2.size
  refine ⟨((hb.trans (h1.mono y0)).trans (h2.mono (by omega))).trans (h3.mono (by omega)), (row_keep (row_keep r1 (h2.block _ z1)) (h3.block _ (by omega))).congr (fun i _ => ?_), (row_keep r2 (h3.block _ z2)).congr (fun i _ => ?_), r3.congr (fun c _ => ?_), fun i hi => by omega, fun i hi => by omega, fun i hi => by omega, by omega⟩
  · rw [if_neg (by omega)]
  · rw [if_neg (by omega)]
  · rw [if_neg (by omega)]

set_option maxRecDepth 100000 in
set_option maxHeartbeats 1000000 in
theorem p3_4 (ao : Option Addr) (n c : Nat) (pick least tm : Int) (mal inv : Bool) (name id op : ByteArray) (w : World) (Ns Rs : Nat → ByteArray) (Nm Md : Nat → Int) (u18 u19 u20 u21 u22 u23 u24 u25 u26 u27 u28 u29 u30 u31 u32 u33 u34 u35 u36 u37 u38 u39 u40 u41 u42 u43 u44 u45 u46 u47 u48 u49 u50 u51 u52 u53 u54 u55 u56 u57 u58 u59 u60 u61 u62 u63 u64 u65 u66 u67 u68 u69 u70 u71 u72 u73 u74 u75 u76 u77 u78 u79 u80 u81 u82 u83 u84 u85 u86 u87 u88 u89 u90 u91 u92 u93 u94 u95 u96 u97 u98 u99 u100 u101 u102 u103 u104 u105 u106 u107 u108 u109 u110 u111 u112 u113 u114 u115 u116 u117 u118 u119 u120 u121 u122 u123 u124 u125 u126 u127 u128 u129 u130 u131 u132 u133 u134 u135 u136 u137 u138 u139 u140 u141 u142 u143 u144 u145 u146 u147 u148 u149 u150 u151 u152 u153 u154 u155 u156 u157 u158 u159 u160 u161 u162 u163 u164 u165 u166 u167 u168 u169 u170 u171 u172 u173 u174 u175 u176 u177 u178 u179 u180 u181 u182 u183 u184 u185 u186 u187 u188 u189 u190 u191 u192 u193 u194 u195 u196 u197 u198 u199 u200 u201 u202 u203 u204 u205 u206 u207 u208 u209 u210 u211 u212 u213 u214 u215 u216 u217 u218 u219 u220 u221 u222 u223 u224 u225 u226 u227 u228 u229 u230 u231 u232 u233 u234 u235 u236 u237 u238 u239 u240 u241 u242 u243 u244 u245 u246 u247 u248 u249 u250 u251 u252 u253 u254 u255 u256 u257 u258 u259 u260 u261 u262 u263 u264 : Value) (W : World) (hM : Ms w ao n Ns Rs Nm Md) (hbl : Below w.heap.size w W) (hn : n * 48 ≤ 140737488351232) (hp : 0 ≤ pick ∧ pick ≤ 255) :
    Code.wp Yba.prog (tl 4 (Yba.f3.body.getD .skip)) (bodyPost Yba.prog Yba.f3 (LawPost w)) ⟨#[.slice ao n c, .int .u8 pick, .string name, .int .i64 least, .bool mal, .bool inv, .string id, .string op, .int .i64 tm, undef, undef, undef, undef, undef, undef, undef, undef, undef, u18, u19, u20, u21, u22, u23, u24, u25, u26, u27, u28, u29, u30, u31, u32, u33, u34, u35, u36, u37, u38, u39, u40, u41, u42, u43, u44, u45, u46, u47, u48, u49, u50, u51, u52, u53, u54, u55, u56, u57, u58, u59, u60, u61, u62, u63, u64, u65, u66, u67, u68, u69, u70, u71, u72, u73, u74, u75, u76, u77, u78, u79, u80, u81, u82, u83, u84, u85, u86, u87, u88, u89, u90, u91, u92, u93, u94, u95, u96, u97, u98, u99, u100, u101, u102, u103, u104, u105, u106, u107, u108, u109, u110, u111, u112, u113, u114, u115, u116, u117, u118, u119, u120, u121, u122, u123, u124, u125, u126, u127, u128, u129, u130, u131, u132, u133, u134, u135, u136, u137, u138, u139, u140, u141, u142, u143, u144, u145, u146, u147, u148, u149, u150, u151, u152, u153, u154, u155, u156, u157, u158, u159, u160, u161, u162, u163, u164, u165, u166, u167, u168, u169, u170, u171, u172, u173, u174, u175, u176, u177, u178, u179, u180, u181, u182, u183, u184, u185, u186, u187, u188, u189, u190, u191, u192, u193, u194, u195, u196, u197, u198, u199, u200, u201, u202, u203, u204, u205, u206, u207, u208, u209, u210, u211, u212, u213, u214, u215, u216, u217, u218, u219, u220, u221, u222, u223, u224, u225, u226, u227, u228, u229, u230, u231, u232, u233, u234, u235, u236, u237, u238, u239, u240, u241, u242, u243, u244, u245, u246, u247, u248, u249, u250, u251, u252, u253, u254, u255, u256, u257, u258, u259, u260, u261, u262, u263, u264], []⟩ W := by
  obtain ⟨i9, hi9, hy1, hy2, hy3⟩ := info_parts info9
  obtain ⟨i30, hi30, hz1, hz2, hz3⟩ := info_parts info30
  have HM : Hid (Ms w ao n Ns Rs Nm Md) := hM
  have HBL : Hid (Below w.heap.size w W) := hbl
  clear hM hbl
  conv => arg 2; whnf
  refine wp_seq_k fun K hK => ?_
  have HK : Hid _ := hK
  clear hK
  go_wp2_with (at_make; refine wpList_make_full _ rfl _ _ 25 rfl W.heap.size 9 i9 (.string ⟨#[]⟩) 1 Yba.underlying25 hi9 hy1 hy2 .i64 .i64 _ _ n rfl rfl rfl rfl (by rw [hy3]; omega) (by unfold maxLen; omega) (Nat.le_refl _) ?_; intro W1 hown hgrow)
  refine HK.out _ _ ?_
  clear HK K
  obtain ⟨fW1, rW1⟩ := own_row hown
  have HRW1 : Hid (W1.rowIs _ _ _ _) := rW1
  have HBW1 : Hid (Below W.heap.size W W1) := (Below.refl _ _).grown hgrow (Nat.le_refl _) (fun k h => by cases h)
  clear hown hgrow rW1
  refine wp_seq_k fun K hK => ?_
  have HK : Hid _ := hK
  clear hK
  go_wp2_with (at_make; refine wpList_make_full _ rfl _ _ 25 rfl W1.heap.size 9 i9 (.string ⟨#[]⟩) 1 Yba.underlying25 hi9 hy1 hy2 .i64 .i64 _ _ n rfl rfl rfl rfl (by rw [hy3]; omega) (by unfold maxLen; omega) (Nat.le_refl _) ?_; intro W2 hown hgrow)
  refine HK.out _ _ ?_
  clear HK K
  obtain ⟨fW2, rW2⟩ := own_row hown
  have HRW2 : Hid (W2.rowIs _ _ _ _) := rW2
  have HBW2 : Hid (Below W1.heap.size W1 W2) := (Below.refl _ _).grown hgrow (Nat.le_refl _) (fun k h => by cases h)
  clear hown hgrow rW2
  refine wp_seq_k fun K hK => ?_
  have HK : Hid _ := hK
  clear hK
  go_wp2_with (at_make; refine wpList_make_full _ rfl _ _ 26 rfl W2.heap.size 30 i30 (.agg #[.slice none 0 0, .slice none 0 0]) 2 Yba.underlying26 hi30 hz1 hz2 .i64 .i64 _ _ n rfl rfl rfl rfl (by rw [hz3]; omega) (by unfold maxLen; omega) (Nat.le_refl _) ?_; intro W3 hown hgrow)
  refine HK.out _ _ ?_
  clear HK K
  obtain ⟨fW3, rW3⟩ := own_row hown
  have HRW3 : Hid (W3.rowIs _ _ _ _) := rW3
  have HBW3 : Hid (Below W2.heap.size W2 W3) := (Below.refl _ _).grown hgrow (Nat.le_refl _) (fun k h => by cases h)
  clear hown hgrow rW3
  exact p3_7 ao n c pick least tm mal inv name id op w W.heap.size W1.heap.size W2.heap.size Ns Rs Nm Md fW1 fW2 fW3 _ _ _ _ _ _ _ _ _ _ _ _ _ _ _ _ _ _ _ _ _ _ _ _ _ _ _ _ _ _ _ _ _ _ _ _ _ _ _ _ _ _ _ _ _ _ _ _ _ _ _ _ _ _ _ _ _ _ _ _ _ _ _ _ _ _ _ _ _ _ _ _ _ _ _ _ _ _ _ _ _ _ _ _ _ _ _ _ _ _ _ _ _ _ _ _ _ _ _ _ _ _ _ _ _ _ _ _ _ _ _ _ _ _ _ _ _ _ _ _ _ _ _ _ _ _ _ _ _ _ _ _ _ _ _ _ _ _ _ _ _ _ _ _ _ _ _ _ _ _ _ _ _ _ _ _ _ _ _ _ _ _ _ _ _ _ _ _ _ _ _ _ _ _ _ _ _ _ _ _ _ _ _ _ _ _ _ _ _ _ _ _ _ _ _ _ _ _ _ _ _ _ _ _ _ _ _ _ _ _ _ _ _ _ _ _ _ _ _ _ _ _ _ _ _ _ _ _ _ _ _ _ _ _ _ _ _ _ _ _ _ _ _ _ _ HM.out (l2_start HBL.out HBW1.out HBW2.out HBW3.out (by simpa using HRW1.out) (by simpa using HRW2.out) HRW3.out) (by omega) hp
end Go.Proofs.Ybulkdrdk.Parts
