/-
  the law, from its nineteenth statement on
-/
import Derived.Test.YbulkdrdkLawEnv
namespace Go.Proofs.Ybulkdrdk.Parts
open Go.ChangeShapes Go.WideShapes Go.ChangeAt Go.RowKit
set_option linter.unusedVariables false

set_option maxRecDepth 100000 in
set_option maxHeartbeats 4000000 in
theorem p3_19 (ao : Option Addr) (n c : Nat) (pick least tm : Int) (mal inv : Bool) (name id op : ByteArray) (w : World) (bn bv bm bF : Nat) (Ns Vs : Nat → ByteArray) (A B C D : Nat → Nat) (wm wi : Bool) (u18 u19 u20 u23 u24 u26 u27 u28 u29 u30 u31 u32 u33 u34 u35 u36 u37 u38 u39 u40 u41 u42 u43 u44 u45 u46 u47 u48 u49 u50 u51 u52 u53 u54 u55 u56 u57 u58 u59 u60 u61 u62 u63 u64 u65 u66 u67 u68 u69 u70 u71 u72 u73 u74 u75 u76 u77 u78 u79 u80 u81 u82 u83 u84 u85 u86 u87 u88 u89 u90 u91 u92 u93 u94 u95 u96 u97 u98 u99 u100 u101 u102 u103 u104 u105 u106 u107 u108 u109 u110 u111 u112 u113 u114 u115 u116 u117 u118 u119 u120 u121 u122 u123 u124 u125 u126 u127 u128 u129 u130 u131 u132 u133 u134 u135 u136 u137 u138 u139 u140 u141 u142 u143 u144 u145 u146 u147 u148 u149 u150 u151 u152 u153 u154 u155 u156 u157 u158 u159 u160 u161 u162 u163 u164 u165 u166 u167 u168 u169 u170 u171 u172 u173 u174 u175 u176 u177 u178 u179 u180 u181 u182 u183 u184 u185 u186 u187 u188 u189 u190 u191 u192 u193 u194 u195 u196 u197 u198 u199 u200 u201 u202 u203 u204 u205 u206 u207 u208 u209 u210 u211 u212 u213 u214 u215 u216 u217 u218 u219 u220 u221 u222 u223 u224 u225 u226 u227 u228 u229 u230 u231 u232 u233 u234 u235 u236 u237 u238 u239 u240 u241 u242 u243 u244 u245 u246 u247 u248 u249 u250 u251 u252 u253 u254 u255 u256 u257 u258 u259 u260 u261 u262 u263 u264 : Value) (W : World) (hE : ER w W bn bv bm n bF Ns Vs A B C D id op tm wm wi) :
    Code.wp Yba.prog (tl 19 (Yba.f3.body.getD .skip)) (bodyPost Yba.prog Yba.f3 (LawPost w)) ⟨#[.slice ao n c, .int .u8 pick, .string name, .int .i64 least, .bool mal, .bool inv, .string id, .string op, .int .i64 tm, undef, undef, undef, undef, undef, undef, undef, undef, undef, u18, u19, u20, .slice (some ⟨bn, 0, none⟩) n n, .slice (some ⟨bv, 0, none⟩) n n, u23, u24, .pointer (some ⟨bF, 0, none⟩), u26, u27, u28, u29, u30, u31, u32, u33, u34, u35, u36, u37, u38, u39, u40, u41, u42, u43, u44, u45, u46, u47, u48, u49, u50, u51, u52, u53, u54, u55, u56, u57, u58, u59, u60, u61, u62, u63, u64, u65, u66, u67, u68, u69, u70, u71, u72, u73, u74, u75, u76, u77, u78, u79, u80, u81, u82, u83, u84, u85, u86, u87, u88, u89, u90, u91, u92, u93, u94, u95, u96, u97, u98, u99, u100, u101, u102, u103, u104, u105, u106, u107, u108, u109, u110, u111, u112, u113, u114, u115, u116, u117, u118, u119, u120, u121, u122, u123, u124, u125, u126, u127, u128, u129, u130, u131, u132, u133, u134, u135, u136, u137, u138, u139, u140, u141, u142, u143, u144, u145, u146, u147, u148, u149, u150, u151, u152, u153, u154, u155, u156, u157, u158, u159, u160, u161, u162, u163, u164, u165, u166, u167, u168, u169, u170, u171, u172, u173, u174, u175, u176, u177, u178, u179, u180, u181, u182, u183, u184, u185, u186, u187, u188, u189, u190, u191, u192, u193, u194, u195, u196, u197, u198, u199, u200, u201, u202, u203, u204, u205, u206, u207, u208, u209, u210, u211, u212, u213, u214, u215, u216, u217, u218, u219, u220, u221, u222, u223, u224, u225, u226, u227, u228, u229, u230, u231, u232, u233, u234, u235, u236, u237, u238, u239, u240, u241, u242, u243, u244, u245, u246, u247, u248, u249, u250, u251, u252, u253, u254, u255, u256, u257, u258, u259, u260, u261, u262, u263, u264], []⟩ W := by
  have HE : Hid (ER w W bn bv bm n bF Ns Vs A B C D id op tm wm wi) := hE
  have f0 := hE.fld.cells.1
  have hn := hE.hn
  clear hE
  conv => arg 2; whnf
  refine wp_seq_k fun K hK => ?_
  have HK : Hid _ := hK
  clear hK
  go_wp2_with fail
  go_loopw [34] (fun i wr => ∃ k q : Nat, k ≤ n ∧ i = .int .i64 k ∧ wr = W.drewN q) (fun i _ => n - (intOf i).toNat)
  case atStart => exact ⟨0, 0, by omega, rfl, rfl⟩
  case round =>
    obtain ⟨k, q, hk, rfl, rfl⟩ := hrel
    by_cases hlt : k < n
    · have x1 := HE.out.names k hlt
      have x2 := HE.out.vals k hlt
      have x3 := HE.out.mem.nm k hlt
      have x4 := HE.out.mem.vl k hlt
      have c1 : ∀ q, (convert 28 9 (.slice (some ⟨A k, 0, none⟩) (Ns k).size (C k))).run Yba.prog (W.drewN q) = .ok (.string (Ns k)) (W.drewN q) := fun q => bytes_back ((HE.out.mem.nb k hlt).drewN q)
      have c2 : ∀ q, (convert 28 9 (.slice (some ⟨B k, 0, none⟩) (Vs k).size (D k))).run Yba.prog (W.drewN q) = .ok (.string (Vs k)) (W.drewN q) := fun q => bytes_back ((HE.out.mem.vb k hlt).drewN q)
      go_wp2_with fail
      go_quiet (fail)
      go_wp2_with fail
      go_roundw
      case rel => exact ⟨k + 1, _, by omega, by go_num, rfl⟩
      case measure => simp [intOf]; omega
    · obtain rfl : k = n := by omega
      clear hk hlt
      go_wp2_with fail
      refine HK.out _ _ ?_
      clear HK
      go_wp2_with fail
      go_ret
      exact ⟨rfl, ⟨HE.out.below.os, HE.out.below.tape, HE.out.below.output, HE.out.below.size, HE.out.below.block⟩⟩
end Go.Proofs.Ybulkdrdk.Parts
