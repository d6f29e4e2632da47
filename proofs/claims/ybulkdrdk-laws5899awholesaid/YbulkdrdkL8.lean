/-
  the law, from its eighth statement on
-/
import Derived.Test.YbulkdrdkL13
namespace Go.Proofs.Ybulkdrdk.Parts
open Go.ChangeShapes Go.WideShapes Go.ChangeAt Go.RowKit
set_option linter.unusedVariables false

set_option maxRecDepth 100000 in
set_option maxHeartbeats 4000000 in
theorem p3_12 (ao : Option Addr) (n c : Nat) (pick least tm : Int) (mal inv : Bool) (name id op : ByteArray) (w : World) (bn bv bm bF : Nat) (Ns Vs : Nat → ByteArray) (A B C D : Nat → Nat) (wm wi : Bool) (a : Int) (ok fits : Bool) (t : ByteArray) (u18 u19 u20 u23 u24 u28 u29 u30 u31 u32 u33 u34 u35 u36 u37 u38 u39 u40 u41 u42 u43 u44 u45 u46 u47 u48 u49 u50 u51 u52 u53 u54 u55 u56 u57 u58 u59 u60 u61 u62 u63 u64 u65 u66 u67 u68 u69 u70 u71 u72 u73 u74 u75 u76 u77 u78 u79 u80 u81 u82 u83 u84 u85 u86 u87 u88 u89 u90 u91 u92 u93 u94 u95 u96 u97 u98 u99 u100 u101 u102 u103 u104 u105 u106 u107 u108 u109 u110 u111 u112 u113 u114 u115 u116 u117 u118 u119 u120 u121 u122 u123 u124 u125 u126 u127 u128 u129 u130 u131 u132 u133 u134 u135 u136 u137 u138 u139 u140 u141 u142 u143 u144 u145 u146 u147 u148 u149 u150 u151 u152 u153 u154 u155 u156 u157 u158 u159 u160 u161 u162 u163 u164 u165 u166 u167 u168 u169 u170 u171 u172 u173 u174 u175 u176 u177 u178 u179 u180 u181 u182 u183 u184 u185 u186 u187 u188 u189 u190 u191 u192 u193 u194 u195 u196 u197 u198 u199 u200 u201 u202 u203 u204 u205 u206 u207 u208 u209 u210 u211 u212 u213 u214 u215 u216 u217 u218 u219 u220 u221 u222 u223 u224 u225 u226 u227 u228 u229 u230 u231 u232 u233 u234 u235 u236 u237 u238 u239 u240 u241 u242 u243 u244 u245 u246 u247 u248 u249 u250 u251 u252 u253 u254 u255 u256 u257 u258 u259 u260 u261 u262 u263 u264 : Value) (W : World) (hE : ER w W bn bv bm n bF Ns Vs A B C D id op tm wm wi) (hwm : wm = (mal || !ok)) (hwi : wi = (inv || (ok && (!fits || decide (a < least))))) (hV : ∀ i, i < n → ((Vs i).size : Int) ≤ 140737488355328) (hfound : Found n Ns Vs name t) (hres : PRes (negOf t) (digOf t) (tup a ok fits)) :
    Code.wp Yba.prog (tl 12 (Yba.f3.body.getD .skip)) (bodyPost Yba.prog Yba.f3 (LawPost w)) ⟨#[.slice ao n c, .int .u8 pick, .string name, .int .i64 least, .bool mal, .bool inv, .string id, .string op, .int .i64 tm, undef, undef, undef, undef, undef, undef, undef, undef, undef, u18, u19, u20, .slice (some ⟨bn, 0, none⟩) n n, .slice (some ⟨bv, 0, none⟩) n n, u23, u24, .pointer (some ⟨bF, 0, none⟩), .int .i64 a, .string ⟨#[]⟩, u28, u29, u30, u31, u32, u33, u34, u35, u36, u37, u38, u39, u40, u41, u42, u43, u44, u45, u46, u47, u48, u49, u50, u51, u52, u53, u54, u55, u56, u57, u58, u59, u60, u61, u62, u63, u64, u65, u66, u67, u68, u69, u70, u71, u72, u73, u74, u75, u76, u77, u78, u79, u80, u81, u82, u83, u84, u85, u86, u87, u88, u89, u90, u91, u92, u93, u94, u95, u96, u97, u98, u99, u100, u101, u102, u103, u104, u105, u106, u107, u108, u109, u110, u111, u112, u113, u114, u115, u116, u117, u118, u119, u120, u121, u122, u123, u124, u125, u126, u127, u128, u129, u130, u131, u132, u133, u134, u135, u136, u137, u138, u139, u140, u141, u142, u143, u144, u145, u146, u147, u148, u149, u150, u151, u152, u153, u154, u155, u156, u157, u158, u159, u160, u161, u162, u163, u164, u165, u166, u167, u168, u169, u170, u171, u172, u173, u174, u175, u176, u177, u178, u179, u180, u181, u182, u183, u184, u185, u186, u187, u188, u189, u190, u191, u192, u193, u194, u195, u196, u197, u198, u199, u200, u201, u202, u203, u204, u205, u206, u207, u208, u209, u210, u211, u212, u213, u214, u215, u216, u217, u218, u219, u220, u221, u222, u223, u224, u225, u226, u227, u228, u229, u230, u231, u232, u233, u234, u235, u236, u237, u238, u239, u240, u241, u242, u243, u244, u245, u246, u247, u248, u249, u250, u251, u252, u253, u254, u255, u256, u257, u258, u259, u260, u261, u262, u263, u264], []⟩ W := by
  have Hwm : Hid (wm = (mal || !ok)) := hwm
  have Hwi : Hid (wi = (inv || (ok && (!fits || decide (a < least))))) := hwi
  have HE : Hid (ER w W bn bv bm n bF Ns Vs A B C D id op tm wm wi) := hE
  have HR : Hid (PRes (negOf t) (digOf t) (tup a ok fits)) := hres
  have HV : Hid (∀ i, i < n → ((Vs i).size : Int) ≤ 140737488355328) := hV
  have HFd : Hid (Found n Ns Vs name t) := hfound
  have hn := hE.hn
  clear hwm hwi hE hres hV hfound
  conv => arg 2; whnf
  refine wp_seq_k fun K hK => ?_
  have HK : Hid _ := hK
  clear hK
  go_wp2_with fail
  go_loopw [27, 28] (fun x i wr => ∃ k : Nat, k ≤ n ∧ x = .string ⟨#[]⟩ ∧ i = .int .i64 k ∧ Hid (∀ j, j < k → ¬ Ns j = name) ∧ wr = W) (fun _ i _ => n - (intOf i).toNat)
  case atStart => exact ⟨0, by omega, rfl, rfl, fun j hj => by omega, rfl⟩
  case round =>
    obtain ⟨k, hk, rfl, rfl, hno, rfl⟩ := hrel
    by_cases hlt : k < n
    · have x1 := HE.out.names k hlt
      have x2 := HE.out.vals k hlt
      by_cases he : Ns k = name
      · have he2 : ((Ns k).toList == name.toList) = true := by rw [he]; simp
        have ht : t = Vs k := HFd.out.uniq (Or.inl ⟨k, hlt, he, hno.out, rfl⟩)
        subst ht
        clear he
        go_wp2_with fail
        refine HK.out _ _ ?_
        exact p3_13 ao n c pick least tm mal inv name id op w bn bv bm bF Ns Vs A B C D wm wi a ok fits _ _ _ _ _ _ _ _ _ _ _ _ _ _ _ _ _ _ _ _ _ _ _ _ _ _ _ _ _ _ _ _ _ _ _ _ _ _ _ _ _ _ _ _ _ _ _ _ _ _ _ _ _ _ _ _ _ _ _ _ _ _ _ _ _ _ _ _ _ _ _ _ _ _ _ _ _ _ _ _ _ _ _ _ _ _ _ _ _ _ _ _ _ _ _ _ _ _ _ _ _ _ _ _ _ _ _ _ _ _ _ _ _ _ _ _ _ _ _ _ _ _ _ _ _ _ _ _ _ _ _ _ _ _ _ _ _ _ _ _ _ _ _ _ _ _ _ _ _ _ _ _ _ _ _ _ _ _ _ _ _ _ _ _ _ _ _ _ _ _ _ _ _ _ _ _ _ _ _ _ _ _ _ _ _ _ _ _ _ _ _ _ _ _ _ _ _ _ _ _ _ _ _ _ _ _ _ _ _ _ _ _ _ _ _ _ _ _ _ _ _ _ _ _ _ _ _ _ _ _ _ _ _ _ _ _ _ _ _ _ _ _ _ _ HE.out Hwm.out Hwi.out (HV.out k hlt) HR.out
      · have he2 := str_ne he
        go_wp2_with fail
        go_roundw
        case rel => exact ⟨k + 1, by omega, rfl, by go_num, fun j hj => by
            by_cases e : j < k
            · exact hno.out j e
            · obtain rfl : j = k := by omega
              exact he, trivial⟩
        case measure => simp [intOf]; omega
    · obtain rfl : k = n := by omega
      have ht : t = ByteArray.empty := HFd.out.uniq (Or.inr ⟨hno.out, rfl⟩)
      subst ht
      clear hk hlt
      go_wp2_with fail
      refine HK.out _ _ ?_
      exact p3_13 ao _ c pick least tm mal inv name id op w bn bv bm bF Ns Vs A B C D wm wi a ok fits _ _ _ _ _ _ _ _ _ _ _ _ _ _ _ _ _ _ _ _ _ _ _ _ _ _ _ _ _ _ _ _ _ _ _ _ _ _ _ _ _ _ _ _ _ _ _ _ _ _ _ _ _ _ _ _ _ _ _ _ _ _ _ _ _ _ _ _ _ _ _ _ _ _ _ _ _ _ _ _ _ _ _ _ _ _ _ _ _ _ _ _ _ _ _ _ _ _ _ _ _ _ _ _ _ _ _ _ _ _ _ _ _ _ _ _ _ _ _ _ _ _ _ _ _ _ _ _ _ _ _ _ _ _ _ _ _ _ _ _ _ _ _ _ _ _ _ _ _ _ _ _ _ _ _ _ _ _ _ _ _ _ _ _ _ _ _ _ _ _ _ _ _ _ _ _ _ _ _ _ _ _ _ _ _ _ _ _ _ _ _ _ _ _ _ _ _ _ _ _ _ _ _ _ _ _ _ _ _ _ _ _ _ _ _ _ _ _ _ _ _ _ _ _ _ _ _ _ _ _ _ _ _ _ _ _ _ _ _ _ _ _ _ _ HE.out Hwm.out Hwi.out (by decide) HR.out
/-- names, values, members -/
structure ES (w W : World) (bn bv bm n : Nat) (Ns Vs : Nat → ByteArray) (A B C D : Nat → Nat) : Prop where
  below : Below w.heap.size w W
  names : ∀ i, i < n → W.cell? ⟨bn, i, none⟩ = some (.string (Ns i))
  vals : ∀ i, i < n → W.cell? ⟨bv, i, none⟩ = some (.string (Vs i))
  mem : Mem W bm n A B C D Ns Vs
  hn : (n : Int) ≤ 140737488355328
  lt : bn < W.heap.size ∧ bv < W.heap.size

theorem er_new {w W : World} {bn bv bm n : Nat} {Ns Vs : Nat → ByteArray} {A B C D : Nat → Nat} (h : ES w W bn bv bm n Ns Vs A B C D) (id op : ByteArray) (tm : Int) (mal inv : Bool) :
    ER w (W.alloc (.cells #[.slice (some ⟨bm, 0, none⟩) n n, .string id, .string op, .int .i64 tm, .bool mal, .bool inv] 35)) bn bv bm n W.heap.size Ns Vs A B C D id op tm mal inv := by
  have hb : Below W.heap.size W (W.alloc (.cells #[.slice (some ⟨bm, 0, none⟩) n n, .string id, .string op, .int .i64 tm, .bool mal, .bool inv] 35)) := (Below.refl _ _).alloc (Nat.le_refl _) _
  exact ⟨h.below.alloc h.below.size _, fun i hi => (hb.cell (p := ⟨bn, i, none⟩) h.lt.1).trans (h.names i hi), fun i hi => (hb.cell (p := ⟨bv, i, none⟩) h.lt.2).trans (h.vals i hi), h.mem.mono hb, Deep.blk_alloc_new _ _, h.hn⟩

/-- the fields' block is none of the others -/
structure Off (w W : World) (bn bv bm n bF : Nat) (A B : Nat → Nat) : Prop where
  w : w.heap.size ≤ bF
  ne : bn ≠ bF ∧ bv ≠ bF ∧ bm ≠ bF
  ab : ∀ i, i < n → A i ≠ bF ∧ B i ≠ bF
  lt : bn < W.heap.size ∧ bv < W.heap.size

theorem er_kept {w W w' : World} {bn bv bm n bF : Nat} {Ns Vs : Nat → ByteArray} {A B C D : Nat → Nat} {id op : ByteArray} {tm : Int} {mal inv wm wi : Bool} (h : ER w W bn bv bm n bF Ns Vs A B C D id op tm mal inv) (ho : Off w W bn bv bm n bF A B) (hk : Kept W w' bF) (hf : Fld w' bF (.slice (some ⟨bm, 0, none⟩) n n) id op tm wm wi) :
    ER w w' bn bv bm n bF Ns Vs A B C D id op tm wm wi := by
  have z := h.below.size
  have hw := ho.w
  have hc : ∀ b o, b < W.heap.size → b ≠ bF → w'.cell? ⟨b, o, none⟩ = W.cell? ⟨b, o, none⟩ := fun b o h1 h2 => World.cell?_of_block (w := W) (a := ⟨b, o, none⟩) (hk.block b h1 h2)
  exact ⟨⟨hk.os.trans h.below.os, hk.tape.trans h.below.tape, hk.output.trans h.below.output, Nat.le_trans z hk.size, fun k hkk => (hk.block k (by omega) (by omega)).trans (h.below.block k hkk)⟩,
    fun i hi => (hc _ _ ho.lt.1 ho.ne.1).trans (h.names i hi), fun i hi => (hc _ _ ho.lt.2 ho.ne.2.1).trans (h.vals i hi),
    h.mem.keep hk.size (hk.block _ h.mem.lt ho.ne.2.2) (fun i hi => ⟨hk.block _ (h.mem.al i hi).1 (ho.ab i hi).1, hk.block _ (h.mem.al i hi).2 (ho.ab i hi).2⟩), hf, h.hn⟩

set_option maxRecDepth 100000 in
set_option maxHeartbeats 4000000 in
theorem p3_10 (ao : Option Addr) (n c : Nat) (pick least tm : Int) (mal inv : Bool) (name id op : ByteArray) (w : World) (bn bv bm bF : Nat) (Ns Vs : Nat → ByteArray) (A B C D : Nat → Nat) (u18 u19 u20 u24 u26 u27 u28 u29 u30 u31 u32 u33 u34 u35 u36 u37 u38 u39 u40 u41 u42 u43 u44 u45 u46 u47 u48 u49 u50 u51 u52 u53 u54 u55 u56 u57 u58 u59 u60 u61 u62 u63 u64 u65 u66 u67 u68 u69 u70 u71 u72 u73 u74 u75 u76 u77 u78 u79 u80 u81 u82 u83 u84 u85 u86 u87 u88 u89 u90 u91 u92 u93 u94 u95 u96 u97 u98 u99 u100 u101 u102 u103 u104 u105 u106 u107 u108 u109 u110 u111 u112 u113 u114 u115 u116 u117 u118 u119 u120 u121 u122 u123 u124 u125 u126 u127 u128 u129 u130 u131 u132 u133 u134 u135 u136 u137 u138 u139 u140 u141 u142 u143 u144 u145 u146 u147 u148 u149 u150 u151 u152 u153 u154 u155 u156 u157 u158 u159 u160 u161 u162 u163 u164 u165 u166 u167 u168 u169 u170 u171 u172 u173 u174 u175 u176 u177 u178 u179 u180 u181 u182 u183 u184 u185 u186 u187 u188 u189 u190 u191 u192 u193 u194 u195 u196 u197 u198 u199 u200 u201 u202 u203 u204 u205 u206 u207 u208 u209 u210 u211 u212 u213 u214 u215 u216 u217 u218 u219 u220 u221 u222 u223 u224 u225 u226 u227 u228 u229 u230 u231 u232 u233 u234 u235 u236 u237 u238 u239 u240 u241 u242 u243 u244 u245 u246 u247 u248 u249 u250 u251 u252 u253 u254 u255 u256 u257 u258 u259 u260 u261 u262 u263 u264 : Value) (W : World) (hE : ER w W bn bv bm n bF Ns Vs A B C D id op tm mal inv) (hO : Off w W bn bv bm n bF A B) (hV : ∀ i, i < n → ((Vs i).size : Int) ≤ 140737488355328) :
    Code.wp Yba.prog (tl 10 (Yba.f3.body.getD .skip)) (bodyPost Yba.prog Yba.f3 (LawPost w)) ⟨#[.slice ao n c, .int .u8 pick, .string name, .int .i64 least, .bool mal, .bool inv, .string id, .string op, .int .i64 tm, undef, undef, undef, undef, undef, undef, undef, undef, undef, u18, u19, u20, .slice (some ⟨bn, 0, none⟩) n n, .slice (some ⟨bv, 0, none⟩) n n, .slice (some ⟨bm, 0, none⟩) n n, u24, .pointer (some ⟨bF, 0, none⟩), u26, u27, u28, u29, u30, u31, u32, u33, u34, u35, u36, u37, u38, u39, u40, u41, u42, u43, u44, u45, u46, u47, u48, u49, u50, u51, u52, u53, u54, u55, u56, u57, u58, u59, u60, u61, u62, u63, u64, u65, u66, u67, u68, u69, u70, u71, u72, u73, u74, u75, u76, u77, u78, u79, u80, u81, u82, u83, u84, u85, u86, u87, u88, u89, u90, u91, u92, u93, u94, u95, u96, u97, u98, u99, u100, u101, u102, u103, u104, u105, u106, u107, u108, u109, u110, u111, u112, u113, u114, u115, u116, u117, u118, u119, u120, u121, u122, u123, u124, u125, u126, u127, u128, u129, u130, u131, u132, u133, u134, u135, u136, u137, u138, u139, u140, u141, u142, u143, u144, u145, u146, u147, u148, u149, u150, u151, u152, u153, u154, u155, u156, u157, u158, u159, u160, u161, u162, u163, u164, u165, u166, u167, u168, u169, u170, u171, u172, u173, u174, u175, u176, u177, u178, u179, u180, u181, u182, u183, u184, u185, u186, u187, u188, u189, u190, u191, u192, u193, u194, u195, u196, u197, u198, u199, u200, u201, u202, u203, u204, u205, u206, u207, u208, u209, u210, u211, u212, u213, u214, u215, u216, u217, u218, u219, u220, u221, u222, u223, u224, u225, u226, u227, u228, u229, u230, u231, u232, u233, u234, u235, u236, u237, u238, u239, u240, u241, u242, u243, u244, u245, u246, u247, u248, u249, u250, u251, u252, u253, u254, u255, u256, u257, u258, u259, u260, u261, u262, u263, u264], []⟩ W := by
  have HE : Hid (ER w W bn bv bm n bF Ns Vs A B C D id op tm mal inv) := hE
  have HO : Hid (Off w W bn bv bm n bF A B) := hO
  have HV : Hid (∀ i, i < n → ((Vs i).size : Int) ≤ 140737488355328) := hV
  have HAt : Hid (Calls Yba.prog 6 #[.pointer (some ⟨bF, 0, none⟩), .string name, .int .i64 least] W (AtPost W bF (.slice (some ⟨bm, 0, none⟩) n n) n Ns Vs name id op tm least mal inv)) := atLeast_any W bF bm n n A B C D Ns Vs name id op tm least mal inv hE.fld hE.mem hE.hn hV
  clear hE hO hV
  conv => arg 2; whnf
  refine wp_seq_k fun K hK => ?_
  have HK : Hid _ := hK
  clear hK
  go_wp2_with fail
  refine HAt.out.mono ?_
  rintro e w2 ⟨t, a, ok, fits, hfound, hres, rfl, hkept, hF⟩
  have HT : Hid (Found n Ns Vs name t) := hfound
  have HR : Hid (PRes (negOf t) (digOf t) (tup a ok fits)) := hres
  have HE2 : Hid (ER w w2 bn bv bm n bF Ns Vs A B C D id op tm (mal || !ok) (inv || (ok && (!fits || decide (a < least))))) := er_kept HE.out HO.out hkept hF
  clear hfound hres hkept hF HAt
  go_wp2_with fail
  refine HK.out _ _ ?_
  clear HK K
  refine wp_seq_k fun K hK => ?_
  have HK : Hid _ := hK
  clear hK
  go_wp2_with fail
  refine HK.out _ _ ?_
  clear HK K
  exact p3_12 ao n c pick least tm mal inv name id op w bn bv bm bF Ns Vs A B C D _ _ a ok fits t _ _ _ _ _ _ _ _ _ _ _ _ _ _ _ _ _ _ _ _ _ _ _ _ _ _ _ _ _ _ _ _ _ _ _ _ _ _ _ _ _ _ _ _ _ _ _ _ _ _ _ _ _ _ _ _ _ _ _ _ _ _ _ _ _ _ _ _ _ _ _ _ _ _ _ _ _ _ _ _ _ _ _ _ _ _ _ _ _ _ _ _ _ _ _ _ _ _ _ _ _ _ _ _ _ _ _ _ _ _ _ _ _ _ _ _ _ _ _ _ _ _ _ _ _ _ _ _ _ _ _ _ _ _ _ _ _ _ _ _ _ _ _ _ _ _ _ _ _ _ _ _ _ _ _ _ _ _ _ _ _ _ _ _ _ _ _ _ _ _ _ _ _ _ _ _ _ _ _ _ _ _ _ _ _ _ _ _ _ _ _ _ _ _ _ _ _ _ _ _ _ _ _ _ _ _ _ _ _ _ _ _ _ _ _ _ _ _ _ _ _ _ _ _ _ _ _ _ _ _ _ _ _ _ _ _ _ _ _ _ _ _ _ HE2.out rfl rfl HV.out HT.out HR.out
set_option maxRecDepth 100000 in
set_option maxHeartbeats 4000000 in
theorem p3_9 (ao : Option Addr) (n c : Nat) (pick least tm : Int) (mal inv : Bool) (name id op : ByteArray) (w : World) (bn bv bm : Nat) (Ns Vs : Nat → ByteArray) (A B C D : Nat → Nat) (u18 u19 u20 u24 u25 u26 u27 u28 u29 u30 u31 u32 u33 u34 u35 u36 u37 u38 u39 u40 u41 u42 u43 u44 u45 u46 u47 u48 u49 u50 u51 u52 u53 u54 u55 u56 u57 u58 u59 u60 u61 u62 u63 u64 u65 u66 u67 u68 u69 u70 u71 u72 u73 u74 u75 u76 u77 u78 u79 u80 u81 u82 u83 u84 u85 u86 u87 u88 u89 u90 u91 u92 u93 u94 u95 u96 u97 u98 u99 u100 u101 u102 u103 u104 u105 u106 u107 u108 u109 u110 u111 u112 u113 u114 u115 u116 u117 u118 u119 u120 u121 u122 u123 u124 u125 u126 u127 u128 u129 u130 u131 u132 u133 u134 u135 u136 u137 u138 u139 u140 u141 u142 u143 u144 u145 u146 u147 u148 u149 u150 u151 u152 u153 u154 u155 u156 u157 u158 u159 u160 u161 u162 u163 u164 u165 u166 u167 u168 u169 u170 u171 u172 u173 u174 u175 u176 u177 u178 u179 u180 u181 u182 u183 u184 u185 u186 u187 u188 u189 u190 u191 u192 u193 u194 u195 u196 u197 u198 u199 u200 u201 u202 u203 u204 u205 u206 u207 u208 u209 u210 u211 u212 u213 u214 u215 u216 u217 u218 u219 u220 u221 u222 u223 u224 u225 u226 u227 u228 u229 u230 u231 u232 u233 u234 u235 u236 u237 u238 u239 u240 u241 u242 u243 u244 u245 u246 u247 u248 u249 u250 u251 u252 u253 u254 u255 u256 u257 u258 u259 u260 u261 u262 u263 u264 : Value) (W : World) (hS : ES w W bn bv bm n Ns Vs A B C D) (hV : ∀ i, i < n → ((Vs i).size : Int) ≤ 140737488355328) :
    Code.wp Yba.prog (tl 9 (Yba.f3.body.getD .skip)) (bodyPost Yba.prog Yba.f3 (LawPost w)) ⟨#[.slice ao n c, .int .u8 pick, .string name, .int .i64 least, .bool mal, .bool inv, .string id, .string op, .int .i64 tm, undef, undef, undef, undef, undef, undef, undef, undef, undef, u18, u19, u20, .slice (some ⟨bn, 0, none⟩) n n, .slice (some ⟨bv, 0, none⟩) n n, .slice (some ⟨bm, 0, none⟩) n n, u24, u25, u26, u27, u28, u29, u30, u31, u32, u33, u34, u35, u36, u37, u38, u39, u40, u41, u42, u43, u44, u45, u46, u47, u48, u49, u50, u51, u52, u53, u54, u55, u56, u57, u58, u59, u60, u61, u62, u63, u64, u65, u66, u67, u68, u69, u70, u71, u72, u73, u74, u75, u76, u77, u78, u79, u80, u81, u82, u83, u84, u85, u86, u87, u88, u89, u90, u91, u92, u93, u94, u95, u96, u97, u98, u99, u100, u101, u102, u103, u104, u105, u106, u107, u108, u109, u110, u111, u112, u113, u114, u115, u116, u117, u118, u119, u120, u121, u122, u123, u124, u125, u126, u127, u128, u129, u130, u131, u132, u133, u134, u135, u136, u137, u138, u139, u140, u141, u142, u143, u144, u145, u146, u147, u148, u149, u150, u151, u152, u153, u154, u155, u156, u157, u158, u159, u160, u161, u162, u163, u164, u165, u166, u167, u168, u169, u170, u171, u172, u173, u174, u175, u176, u177, u178, u179, u180, u181, u182, u183, u184, u185, u186, u187, u188, u189, u190, u191, u192, u193, u194, u195, u196, u197, u198, u199, u200, u201, u202, u203, u204, u205, u206, u207, u208, u209, u210, u211, u212, u213, u214, u215, u216, u217, u218, u219, u220, u221, u222, u223, u224, u225, u226, u227, u228, u229, u230, u231, u232, u233, u234, u235, u236, u237, u238, u239, u240, u241, u242, u243, u244, u245, u246, u247, u248, u249, u250, u251, u252, u253, u254, u255, u256, u257, u258, u259, u260, u261, u262, u263, u264], []⟩ W := by
  have HS : Hid (ES w W bn bv bm n Ns Vs A B C D) := hS
  have HV : Hid (∀ i, i < n → ((Vs i).size : Int) ≤ 140737488355328) := hV
  have HO : Hid (Off w (W.alloc (.cells #[.slice (some ⟨bm, 0, none⟩) n n, .string id, .string op, .int .i64 tm, .bool mal, .bool inv] 35)) bn bv bm n W.heap.size A B) := by
    have z1 := hS.lt
    have z2 := hS.mem.lt
    exact ⟨hS.below.size, by omega, fun i hi => by have := hS.mem.al i hi; omega, by simp; omega⟩
  clear hS hV
  conv => arg 2; whnf
  refine wp_seq_k fun K hK => ?_
  have HK : Hid _ := hK
  clear hK
  go_wp2_with fail
  refine HK.out _ _ ?_
  clear HK K
  exact p3_10 ao n c pick least tm mal inv name id op w bn bv bm W.heap.size Ns Vs A B C D _ _ _ _ _ _ _ _ _ _ _ _ _ _ _ _ _ _ _ _ _ _ _ _ _ _ _ _ _ _ _ _ _ _ _ _ _ _ _ _ _ _ _ _ _ _ _ _ _ _ _ _ _ _ _ _ _ _ _ _ _ _ _ _ _ _ _ _ _ _ _ _ _ _ _ _ _ _ _ _ _ _ _ _ _ _ _ _ _ _ _ _ _ _ _ _ _ _ _ _ _ _ _ _ _ _ _ _ _ _ _ _ _ _ _ _ _ _ _ _ _ _ _ _ _ _ _ _ _ _ _ _ _ _ _ _ _ _ _ _ _ _ _ _ _ _ _ _ _ _ _ _ _ _ _ _ _ _ _ _ _ _ _ _ _ _ _ _ _ _ _ _ _ _ _ _ _ _ _ _ _ _ _ _ _ _ _ _ _ _ _ _ _ _ _ _ _ _ _ _ _ _ _ _ _ _ _ _ _ _ _ _ _ _ _ _ _ _ _ _ _ _ _ _ _ _ _ _ _ _ _ _ _ _ _ _ _ _ _ _ _ _ _ _ (er_new HS.out id op tm mal inv) HO.out HV.out
set_option maxRecDepth 100000 in
set_option maxHeartbeats 4000000 in
theorem p3_8 (ao : Option Addr) (n c : Nat) (pick least tm : Int) (mal inv : Bool) (name id op : ByteArray) (w : World) (bn bv bm : Nat) (Ns Vs : Nat → ByteArray) (A B C D : Nat → Nat) (u18 u19 u20 u24 u25 u26 u27 u28 u29 u30 u31 u32 u33 u34 u35 u36 u37 u38 u39 u40 u41 u42 u43 u44 u45 u46 u47 u48 u49 u50 u51 u52 u53 u54 u55 u56 u57 u58 u59 u60 u61 u62 u63 u64 u65 u66 u67 u68 u69 u70 u71 u72 u73 u74 u75 u76 u77 u78 u79 u80 u81 u82 u83 u84 u85 u86 u87 u88 u89 u90 u91 u92 u93 u94 u95 u96 u97 u98 u99 u100 u101 u102 u103 u104 u105 u106 u107 u108 u109 u110 u111 u112 u113 u114 u115 u116 u117 u118 u119 u120 u121 u122 u123 u124 u125 u126 u127 u128 u129 u130 u131 u132 u133 u134 u135 u136 u137 u138 u139 u140 u141 u142 u143 u144 u145 u146 u147 u148 u149 u150 u151 u152 u153 u154 u155 u156 u157 u158 u159 u160 u161 u162 u163 u164 u165 u166 u167 u168 u169 u170 u171 u172 u173 u174 u175 u176 u177 u178 u179 u180 u181 u182 u183 u184 u185 u186 u187 u188 u189 u190 u191 u192 u193 u194 u195 u196 u197 u198 u199 u200 u201 u202 u203 u204 u205 u206 u207 u208 u209 u210 u211 u212 u213 u214 u215 u216 u217 u218 u219 u220 u221 u222 u223 u224 u225 u226 u227 u228 u229 u230 u231 u232 u233 u234 u235 u236 u237 u238 u239 u240 u241 u242 u243 u244 u245 u246 u247 u248 u249 u250 u251 u252 u253 u254 u255 u256 u257 u258 u259 u260 u261 u262 u263 u264 : Value) (W : World) (hS : ES w W bn bv bm n Ns Vs A B C D) (hV : ∀ i, i < n → ((Vs i).size : Int) ≤ 140737488355328) (hp : 0 ≤ pick ∧ pick ≤ 255) :
    Code.wp Yba.prog (tl 8 (Yba.f3.body.getD .skip)) (bodyPost Yba.prog Yba.f3 (LawPost w)) ⟨#[.slice ao n c, .int .u8 pick, .string name, .int .i64 least, .bool mal, .bool inv, .string id, .string op, .int .i64 tm, undef, undef, undef, undef, undef, undef, undef, undef, undef, u18, u19, u20, .slice (some ⟨bn, 0, none⟩) n n, .slice (some ⟨bv, 0, none⟩) n n, .slice (some ⟨bm, 0, none⟩) n n, u24, u25, u26, u27, u28, u29, u30, u31, u32, u33, u34, u35, u36, u37, u38, u39, u40, u41, u42, u43, u44, u45, u46, u47, u48, u49, u50, u51, u52, u53, u54, u55, u56, u57, u58, u59, u60, u61, u62, u63, u64, u65, u66, u67, u68, u69, u70, u71, u72, u73, u74, u75, u76, u77, u78, u79, u80, u81, u82, u83, u84, u85, u86, u87, u88, u89, u90, u91, u92, u93, u94, u95, u96, u97, u98, u99, u100, u101, u102, u103, u104, u105, u106, u107, u108, u109, u110, u111, u112, u113, u114, u115, u116, u117, u118, u119, u120, u121, u122, u123, u124, u125, u126, u127, u128, u129, u130, u131, u132, u133, u134, u135, u136, u137, u138, u139, u140, u141, u142, u143, u144, u145, u146, u147, u148, u149, u150, u151, u152, u153, u154, u155, u156, u157, u158, u159, u160, u161, u162, u163, u164, u165, u166, u167, u168, u169, u170, u171, u172, u173, u174, u175, u176, u177, u178, u179, u180, u181, u182, u183, u184, u185, u186, u187, u188, u189, u190, u191, u192, u193, u194, u195, u196, u197, u198, u199, u200, u201, u202, u203, u204, u205, u206, u207, u208, u209, u210, u211, u212, u213, u214, u215, u216, u217, u218, u219, u220, u221, u222, u223, u224, u225, u226, u227, u228, u229, u230, u231, u232, u233, u234, u235, u236, u237, u238, u239, u240, u241, u242, u243, u244, u245, u246, u247, u248, u249, u250, u251, u252, u253, u254, u255, u256, u257, u258, u259, u260, u261, u262, u263, u264], []⟩ W := by
  have HS : Hid (ES w W bn bv bm n Ns Vs A B C D) := hS
  have HV : Hid (∀ i, i < n → ((Vs i).size : Int) ≤ 140737488355328) := hV
  have hn := hS.hn
  clear hS hV
  conv => arg 2; whnf
  refine wp_seq_k fun K hK => ?_
  have HK : Hid _ := hK
  clear hK
  by_cases h3 : pick % 4 = 3
  · go_wp2_with fail
    refine HK.out _ _ ?_
    exact p3_9 ao n c pick least tm mal inv name id op w bn bv bm Ns Vs A B C D _ _ _ _ _ _ _ _ _ _ _ _ _ _ _ _ _ _ _ _ _ _ _ _ _ _ _ _ _ _ _ _ _ _ _ _ _ _ _ _ _ _ _ _ _ _ _ _ _ _ _ _ _ _ _ _ _ _ _ _ _ _ _ _ _ _ _ _ _ _ _ _ _ _ _ _ _ _ _ _ _ _ _ _ _ _ _ _ _ _ _ _ _ _ _ _ _ _ _ _ _ _ _ _ _ _ _ _ _ _ _ _ _ _ _ _ _ _ _ _ _ _ _ _ _ _ _ _ _ _ _ _ _ _ _ _ _ _ _ _ _ _ _ _ _ _ _ _ _ _ _ _ _ _ _ _ _ _ _ _ _ _ _ _ _ _ _ _ _ _ _ _ _ _ _ _ _ _ _ _ _ _ _ _ _ _ _ _ _ _ _ _ _ _ _ _ _ _ _ _ _ _ _ _ _ _ _ _ _ _ _ _ _ _ _ _ _ _ _ _ _ _ _ _ _ _ _ _ _ _ _ _ _ _ _ _ _ _ _ _ _ _ _ _ _ HS.out HV.out
  · have h3' : (pick % 4 == 3) = false := beq_eq_false_iff_ne.2 h3
    by_cases h0 : n = 0
    · subst h0
      go_wp2_with fail
      refine HK.out _ _ ?_
      exact p3_9 ao 0 c pick least tm mal inv name id op w bn bv bm Ns Vs A B C D _ _ _ _ _ _ _ _ _ _ _ _ _ _ _ _ _ _ _ _ _ _ _ _ _ _ _ _ _ _ _ _ _ _ _ _ _ _ _ _ _ _ _ _ _ _ _ _ _ _ _ _ _ _ _ _ _ _ _ _ _ _ _ _ _ _ _ _ _ _ _ _ _ _ _ _ _ _ _ _ _ _ _ _ _ _ _ _ _ _ _ _ _ _ _ _ _ _ _ _ _ _ _ _ _ _ _ _ _ _ _ _ _ _ _ _ _ _ _ _ _ _ _ _ _ _ _ _ _ _ _ _ _ _ _ _ _ _ _ _ _ _ _ _ _ _ _ _ _ _ _ _ _ _ _ _ _ _ _ _ _ _ _ _ _ _ _ _ _ _ _ _ _ _ _ _ _ _ _ _ _ _ _ _ _ _ _ _ _ _ _ _ _ _ _ _ _ _ _ _ _ _ _ _ _ _ _ _ _ _ _ _ _ _ _ _ _ _ _ _ _ _ _ _ _ _ _ _ _ _ _ _ _ _ _ _ _ _ _ _ _ _ _ _ _ HS.out HV.out
    · have h1 : (0 : Int) < n := by omega
      have q1 := Int.emod_nonneg pick (b := (n : Int)) (by omega)
      have q2 := Int.emod_lt_of_pos pick (b := (n : Int)) (by omega)
      obtain ⟨j, hj⟩ : ∃ j : Nat, pick % (n : Int) = (j : Int) := ⟨(pick % (n : Int)).toNat, by omega⟩
      have hjn : j < n := by omega
      have x1 := HS.out.names j hjn
      clear q1 q2
      have h1n : 0 < n := by omega
      go_wp2_with fail
      refine HK.out _ _ ?_
      exact p3_9 ao n c pick least tm mal inv _ id op w bn bv bm Ns Vs A B C D _ _ _ _ _ _ _ _ _ _ _ _ _ _ _ _ _ _ _ _ _ _ _ _ _ _ _ _ _ _ _ _ _ _ _ _ _ _ _ _ _ _ _ _ _ _ _ _ _ _ _ _ _ _ _ _ _ _ _ _ _ _ _ _ _ _ _ _ _ _ _ _ _ _ _ _ _ _ _ _ _ _ _ _ _ _ _ _ _ _ _ _ _ _ _ _ _ _ _ _ _ _ _ _ _ _ _ _ _ _ _ _ _ _ _ _ _ _ _ _ _ _ _ _ _ _ _ _ _ _ _ _ _ _ _ _ _ _ _ _ _ _ _ _ _ _ _ _ _ _ _ _ _ _ _ _ _ _ _ _ _ _ _ _ _ _ _ _ _ _ _ _ _ _ _ _ _ _ _ _ _ _ _ _ _ _ _ _ _ _ _ _ _ _ _ _ _ _ _ _ _ _ _ _ _ _ _ _ _ _ _ _ _ _ _ _ _ _ _ _ _ _ _ _ _ _ _ _ _ _ _ _ _ _ _ _ _ _ _ _ _ _ _ _ _ HS.out HV.out
end Go.Proofs.Ybulkdrdk.Parts
