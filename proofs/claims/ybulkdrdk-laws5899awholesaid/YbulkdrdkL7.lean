/-
  the law, from its seventh statement on: the rows
-/
import Derived.Test.YbulkdrdkRowEnv
namespace Go.Proofs.Ybulkdrdk.Parts
open Go.ChangeShapes Go.WideShapes Go.ChangeAt Go.RowKit
set_option linter.unusedVariables false

def bcap (w : World) (s : ByteArray) : Nat := grownCap w s.size 0 5
def bobj (w : World) (s : ByteArray) : Obj := .cells (bytesRow s (bcap w s)) 5 ((bytesRow s (bcap w s)).size, (bytesRow s (bcap w s)).size + 1)
theorem conv_run (w : World) (s : ByteArray) : (convert 9 28 (.string s)).run Yba.prog w = .ok (.slice (some ⟨w.heap.size, 0, none⟩) s.size (bcap w s)) (w.drew.alloc (bobj w s)) :=
  run_bytes_of_string (P := Yba.prog) w 9 28 5 s Yba.underlying9 Yba.underlying28 Yba.underlying5

/-- what comes in -/
def Ms (w : World) (ao : Option Addr) (n : Nat) (Ns Rs : Nat → ByteArray) (Nm Md : Nat → Int) : Prop := ∀ i, i < n → ∃ b o, ao = some ⟨b, o, none⟩ ∧ b < w.heap.size ∧
  w.cell? ⟨b, o + i * 4, none⟩ = some (.string (Ns i)) ∧ w.cell? ⟨b, o + i * 4 + 1, none⟩ = some (.string (Rs i)) ∧ w.cell? ⟨b, o + i * 4 + 2, none⟩ = some (.int .i64 (Nm i)) ∧ w.cell? ⟨b, o + i * 4 + 3, none⟩ = some (.int .u8 (Md i)) ∧
  (Ns i).size ≤ 140737488351232 ∧ (Rs i).size ≤ 140737488351232 ∧ (-9223372036854775808 ≤ Nm i ∧ Nm i ≤ 9223372036854775807) ∧ (0 ≤ Md i ∧ Md i ≤ 255)

theorem bytes_obj {V x : World} {g : Nat} {s : ByteArray} (h : V.heap[g]? = some (bobj x s)) : Lib.Bytes V g 0 s := by
  intro i hi
  simp only [World.cell?, h, bobj]
  show (bytesRow s (bcap x s))[0 + i]? = _
  have hi' : i < s.data.size := hi
  rw [Nat.zero_add, bytesRow, Array.getElem?_append_left (by simpa using hi'), Array.getElem?_map, Array.getElem?_eq_getElem hi']
  rfl

theorem L2.setM2 {W wr V : World} {bn bv bm n kn kv km : Nat} {Ns Vs : Nat → ByteArray} {A B C D : Nat → Nat} {fn fv fm : Nat → Value} (h : L2 W wr bn bv bm n kn kv km Ns Vs A B C D fn fv fm) (g1 g2 c1 c2 : Nat)
    (hb : Below wr.heap.size ((wr.setCell ⟨bm, km * 2, none⟩ (.slice (some ⟨g1, 0, none⟩) (Ns km).size c1)).setCell ⟨bm, km * 2 + 1, none⟩ (.slice (some ⟨g2, 0, none⟩) (Vs km).size c2)) V)
    (h1 : Lib.Bytes V g1 0 (Ns km)) (h2 : Lib.Bytes V g2 0 (Vs km)) (hg1 : wr.heap.size ≤ g1 ∧ g1 < V.heap.size) (hg2 : wr.heap.size ≤ g2 ∧ g2 < V.heap.size) :
    L2 W V bn bv bm n kn kv (km + 1) Ns Vs (upd A km g1) (upd B km g2) (upd C km c1) (upd D km c2) fn fv fm := by
  obtain ⟨e1, e2, e3, e4, e5, e6⟩ := h.ne
  have z1 := h.nrow.lt
  have z2 := h.vrow.lt
  have z3 := h.mrow.lt
  have zs : wr.heap.size ≤ V.heap.size := by
    have := hb.size
    rw [Deep.nblk_setCell, Deep.nblk_setCell] at this
    exact this
  have ho : ∀ k, k < wr.heap.size → k ≠ bm → V.heap[k]? = wr.heap[k]? := fun k hk hne => by
    rw [hb.block k hk, Below.heap_setCell _ _ _ _ hne, Below.heap_setCell _ _ _ _ hne]
  refine ⟨((h.below.setCell (p := ⟨bm, km * 2, none⟩) e6 _).setCell (p := ⟨bm, km * 2 + 1, none⟩) e6 _).trans (hb.mono h.below.size), row_keep h.nrow (ho _ z1 (by omega)), row_keep h.vrow (ho _ z2 (by omega)), (row_keep ((h.mrow.set (km * 2) _).set (km * 2 + 1) _) (hb.block _ z3)).congr (fun c _ => ?_), fun i hi => ?_, fun i hi => ?_, fun i hi => ?_, h.ne⟩
  · by_cases q1 : c = km * 2 + 1
    · subst q1
      rw [if_pos rfl, if_pos (by omega), mcell, if_neg (by omega), show (km * 2 + 1) / 2 = km by omega, upd_at, upd_at]
    · rw [if_neg q1]
      by_cases q2 : c = km * 2
      · subst q2
        rw [if_pos rfl, if_pos (by omega), mcell, if_pos (by omega), show km * 2 / 2 = km by omega, upd_at, upd_at]
      · rw [if_neg q2]
        by_cases q3 : c < km * 2
        · rw [if_pos q3, if_pos (by omega), mcell, mcell, upd_lt _ _ (by omega), upd_lt _ _ (by omega), upd_lt _ _ (by omega), upd_lt _ _ (by omega)]
        · rw [if_neg q3, if_neg (by omega)]
  · by_cases q : i = km
    · subst q
      rw [upd_at]
      exact h1
    · rw [upd_lt _ _ (by omega)]
      have := h.al i (by omega)
      exact bytes_keep (h.nb i (by omega)) (ho _ this.1.1 this.1.2.2.2)
  · by_cases q : i = km
    · subst q
      rw [upd_at]
      exact h2
    · rw [upd_lt _ _ (by omega)]
      have := h.al i (by omega)
      exact bytes_keep (h.vb i (by omega)) (ho _ this.2.1 this.2.2.2.2)
  · by_cases q : i = km
    · subst q
      rw [upd_at, upd_at]
      omega
    · rw [upd_lt _ _ (by omega), upd_lt _ _ (by omega)]
      have := h.al i (by omega)
      omega

theorem two_new (X : World) (o1 o2 : Obj) : Below X.heap.size X ((X.alloc o1).alloc o2).drew.drew.drew ∧ ((X.alloc o1).alloc o2).drew.drew.drew.heap[X.heap.size]? = some o1 ∧ ((X.alloc o1).alloc o2).drew.drew.drew.heap[X.heap.size + 1]? = some o2 ∧ ((X.alloc o1).alloc o2).drew.drew.drew.heap.size = X.heap.size + 2 := by
  have z : (X.alloc o1).heap.size = X.heap.size + 1 := by simp
  refine ⟨((((Below.refl _ _).alloc (Nat.le_refl _) _).alloc (by simp) _).drew).drew.drew, ?_, ?_, ?_⟩
  · show ((X.alloc o1).alloc o2).heap[X.heap.size]? = _
    rw [Below.heap_alloc _ _ _ (by omega)]
    exact Deep.blk_alloc_new _ _
  · show ((X.alloc o1).alloc o2).heap[X.heap.size + 1]? = _
    rw [← z]
    exact Deep.blk_alloc_new _ _
  · show ((X.alloc o1).alloc o2).heap.size = _
    simp

theorem L2.fin1 {W wr : World} {bn bv bm n kn kv km : Nat} {Ns Vs : Nat → ByteArray} {A B C D : Nat → Nat} {fn fv fm : Nat → Value} (h : L2 W wr bn bv bm n kn kv km Ns Vs A B C D fn fv fm) (c1 c2 : Nat) (r : ByteArray) (hr : Vs km = r) (x y : World) :
    L2 W ((((wr.setCell ⟨bm, km * 2, none⟩ (.slice (some ⟨wr.heap.size, 0, none⟩) (Ns km).size c1)).setCell ⟨bm, km * 2 + 1, none⟩ (.slice (some ⟨wr.heap.size + 1, 0, none⟩) r.size c2)).alloc (bobj x (Ns km))).alloc (bobj y r)).drew.drew.drew bn bv bm n kn kv (km + 1) Ns Vs (upd A km wr.heap.size) (upd B km (wr.heap.size + 1)) (upd C km c1) (upd D km c2) fn fv fm := by
  subst hr
  obtain ⟨t1, t2, t3, t4⟩ := two_new ((wr.setCell ⟨bm, km * 2, none⟩ (.slice (some ⟨wr.heap.size, 0, none⟩) (Ns km).size c1)).setCell ⟨bm, km * 2 + 1, none⟩ (.slice (some ⟨wr.heap.size + 1, 0, none⟩) (Vs km).size c2)) (bobj x (Ns km)) (bobj y (Vs km))
  rw [Deep.nblk_setCell, Deep.nblk_setCell] at t1 t2 t3 t4
  exact h.setM2 wr.heap.size (wr.heap.size + 1) c1 c2 t1 (bytes_obj t2) (bytes_obj t3) (by omega) (by omega)

theorem L2.fin2 {W wr : World} {bn bv bm n kn kv km : Nat} {Ns Vs : Nat → ByteArray} {A B C D : Nat → Nat} {fn fv fm : Nat → Value} (h : L2 W wr bn bv bm n kn kv km Ns Vs A B C D fn fv fm) (c1 c2 : Nat) (r : ByteArray) (hr : Vs km = r) (x y : World) :
    L2 W ((((wr.setCell ⟨bm, km * 2, none⟩ (.slice (some ⟨wr.heap.size + 1, 0, none⟩) (Ns km).size c1)).setCell ⟨bm, km * 2 + 1, none⟩ (.slice (some ⟨wr.heap.size, 0, none⟩) r.size c2)).alloc (bobj x r)).alloc (bobj y (Ns km))).drew.drew.drew bn bv bm n kn kv (km + 1) Ns Vs (upd A km (wr.heap.size + 1)) (upd B km wr.heap.size) (upd C km c1) (upd D km c2) fn fv fm := by
  subst hr
  obtain ⟨t1, t2, t3, t4⟩ := two_new ((wr.setCell ⟨bm, km * 2, none⟩ (.slice (some ⟨wr.heap.size + 1, 0, none⟩) (Ns km).size c1)).setCell ⟨bm, km * 2 + 1, none⟩ (.slice (some ⟨wr.heap.size, 0, none⟩) (Vs km).size c2)) (bobj x (Vs km)) (bobj y (Ns km))
  rw [Deep.nblk_setCell, Deep.nblk_setCell] at t1 t2 t3 t4
  exact h.setM2 (wr.heap.size + 1) wr.heap.size c1 c2 t1 (bytes_obj t3) (bytes_obj t2) (by omega) (by omega)

theorem vs_more {Vs : Nat → ByteArray} {k : Nat} {r : ByteArray} (h : ∀ i, i < k → ((Vs i).size : Int) ≤ 140737488355328) (hr : r.size ≤ 140737488355328) : ∀ i, i < k + 1 → ((upd Vs k r i).size : Int) ≤ 140737488355328 := by
  intro i hi
  by_cases e : i = k
  · subst e
    rw [upd_at]
    omega
  · rw [upd_lt _ _ (by omega)]
    exact h i (by omega)

theorem es_of {w wr : World} {bn bv bm n : Nat} {Ns Vs : Nat → ByteArray} {A B C D : Nat → Nat} {fn fv fm : Nat → Value} (h : L2 w wr bn bv bm n n n n Ns Vs A B C D fn fv fm) (hn : (n : Int) ≤ 140737488355328) : ES w wr bn bv bm n Ns Vs A B C D := by
  refine ⟨h.below, fun i hi => by rw [h.nrow.cell hi, if_pos hi], fun i hi => by rw [h.vrow.cell hi, if_pos hi], ⟨fun i hi => ?_, fun i hi => ?_, h.nb, h.vb, fun i hi => ⟨(h.al i hi).1.1, (h.al i hi).2.1⟩, h.mrow.lt⟩, hn, h.nrow.lt, h.vrow.lt⟩
  · rw [h.mrow.cell (by omega), if_pos (by omega), mcell, if_pos (by omega), show i * 2 / 2 = i by omega]
  · rw [h.mrow.cell (by omega), if_pos (by omega), mcell, if_neg (by omega), show (i * 2 + 1) / 2 = i by omega]

set_option maxRecDepth 100000 in
set_option maxHeartbeats 1000000 in
theorem p3_7 (ao : Option Addr) (n c : Nat) (pick least tm : Int) (mal inv : Bool) (name id op : ByteArray) (w : World) (bn bv bm : Nat) (Ns Rs : Nat → ByteArray) (Nm Md : Nat → Int) (fn fv fm : Nat → Value) (u18 u19 u20 u24 u25 u26 u27 u28 u29 u30 u31 u32 u33 u34 u35 u36 u37 u38 u39 u40 u41 u42 u43 u44 u45 u46 u47 u48 u49 u50 u51 u52 u53 u54 u55 u56 u57 u58 u59 u60 u61 u62 u63 u64 u65 u66 u67 u68 u69 u70 u71 u72 u73 u74 u75 u76 u77 u78 u79 u80 u81 u82 u83 u84 u85 u86 u87 u88 u89 u90 u91 u92 u93 u94 u95 u96 u97 u98 u99 u100 u101 u102 u103 u104 u105 u106 u107 u108 u109 u110 u111 u112 u113 u114 u115 u116 u117 u118 u119 u120 u121 u122 u123 u124 u125 u126 u127 u128 u129 u130 u131 u132 u133 u134 u135 u136 u137 u138 u139 u140 u141 u142 u143 u144 u145 u146 u147 u148 u149 u150 u151 u152 u153 u154 u155 u156 u157 u158 u159 u160 u161 u162 u163 u164 u165 u166 u167 u168 u169 u170 u171 u172 u173 u174 u175 u176 u177 u178 u179 u180 u181 u182 u183 u184 u185 u186 u187 u188 u189 u190 u191 u192 u193 u194 u195 u196 u197 u198 u199 u200 u201 u202 u203 u204 u205 u206 u207 u208 u209 u210 u211 u212 u213 u214 u215 u216 u217 u218 u219 u220 u221 u222 u223 u224 u225 u226 u227 u228 u229 u230 u231 u232 u233 u234 u235 u236 u237 u238 u239 u240 u241 u242 u243 u244 u245 u246 u247 u248 u249 u250 u251 u252 u253 u254 u255 u256 u257 u258 u259 u260 u261 u262 u263 u264 : Value) (W : World) (hM : Ms w ao n Ns Rs Nm Md) (hL : L2 w W bn bv bm n 0 0 0 Ns Ns (fun _ => 0) (fun _ => 0) (fun _ => 0) (fun _ => 0) fn fv fm) (hn : (n : Int) ≤ 140737488355328) (hp : 0 ≤ pick ∧ pick ≤ 255) :
    Code.wp Yba.prog (tl 7 (Yba.f3.body.getD .skip)) (bodyPost Yba.prog Yba.f3 (LawPost w)) ⟨#[.slice ao n c, .int .u8 pick, .string name, .int .i64 least, .bool mal, .bool inv, .string id, .string op, .int .i64 tm, undef, undef, undef, undef, undef, undef, undef, undef, undef, u18, u19, u20, .slice (some ⟨bn, 0, none⟩) n n, .slice (some ⟨bv, 0, none⟩) n n, .slice (some ⟨bm, 0, none⟩) n n, u24, u25, u26, u27, u28, u29, u30, u31, u32, u33, u34, u35, u36, u37, u38, u39, u40, u41, u42, u43, u44, u45, u46, u47, u48, u49, u50, u51, u52, u53, u54, u55, u56, u57, u58, u59, u60, u61, u62, u63, u64, u65, u66, u67, u68, u69, u70, u71, u72, u73, u74, u75, u76, u77, u78, u79, u80, u81, u82, u83, u84, u85, u86, u87, u88, u89, u90, u91, u92, u93, u94, u95, u96, u97, u98, u99, u100, u101, u102, u103, u104, u105, u106, u107, u108, u109, u110, u111, u112, u113, u114, u115, u116, u117, u118, u119, u120, u121, u122, u123, u124, u125, u126, u127, u128, u129, u130, u131, u132, u133, u134, u135, u136, u137, u138, u139, u140, u141, u142, u143, u144, u145, u146, u147, u148, u149, u150, u151, u152, u153, u154, u155, u156, u157, u158, u159, u160, u161, u162, u163, u164, u165, u166, u167, u168, u169, u170, u171, u172, u173, u174, u175, u176, u177, u178, u179, u180, u181, u182, u183, u184, u185, u186, u187, u188, u189, u190, u191, u192, u193, u194, u195, u196, u197, u198, u199, u200, u201, u202, u203, u204, u205, u206, u207, u208, u209, u210, u211, u212, u213, u214, u215, u216, u217, u218, u219, u220, u221, u222, u223, u224, u225, u226, u227, u228, u229, u230, u231, u232, u233, u234, u235, u236, u237, u238, u239, u240, u241, u242, u243, u244, u245, u246, u247, u248, u249, u250, u251, u252, u253, u254, u255, u256, u257, u258, u259, u260, u261, u262, u263, u264], []⟩ W := by
  have HM : Hid (Ms w ao n Ns Rs Nm Md) := hM
  have HL0 : Hid (L2 w W bn bv bm n 0 0 0 Ns Ns (fun _ => 0) (fun _ => 0) (fun _ => 0) (fun _ => 0) fn fv fm) := hL
  obtain ⟨n1, n2, n3, n4, n5, n6⟩ := hL.ne
  clear hM hL
  conv => arg 2; whnf
  refine wp_seq_k fun K hK => ?_
  have HK : Hid _ := hK
  clear hK
  go_wp2_with fail
  go_loopw [24] (fun i wr => ∃ (k : Nat) (Vs : Nat → ByteArray) (A B C D : Nat → Nat), k ≤ n ∧ i = .int .i64 k ∧ Hid (L2 w wr bn bv bm n k k k Ns Vs A B C D fn fv fm) ∧ Hid (∀ i, i < k → ((Vs i).size : Int) ≤ 140737488355328)) (fun i _ => n - (intOf i).toNat)
  case atStart => exact ⟨0, Ns, fun _ => 0, fun _ => 0, fun _ => 0, fun _ => 0, by omega, rfl, HL0, fun i hi => by omega⟩
  case round =>
    obtain ⟨k, Vs, A, B, C, D, hk, rfl, HL, HV⟩ := hrel
    by_cases hlt : k < n
    · obtain ⟨b, o, rfl, hb, y0, y1, y2, y3, s0, s1, hNm, hMd⟩ := HM.out k hlt
      have zW := HL.out.below.size
      replace y0 := (HL.out.below.cell (p := ⟨b, o + k * 4, none⟩) hb).trans y0
      replace y1 := (HL.out.below.cell (p := ⟨b, o + k * 4 + 1, none⟩) hb).trans y1
      replace y2 := (HL.out.below.cell (p := ⟨b, o + k * 4 + 2, none⟩) hb).trans y2
      replace y3 := (HL.out.below.cell (p := ⟨b, o + k * 4 + 3, none⟩) hb).trans y3
      have zbn : bn < wr.heap.size := HL.out.nrow.lt
      have e0 := HL.out.nrow.cell (i := k) hlt
      rw [if_neg (by omega)] at e0
      have g0 := HL.out.nrow.frozen k
      have hbn : b ≠ bn := by omega
      go_wp2_with fail
      refine (value_any _ _ _ _ _ hNm.1 hNm.2 hMd).mono ?_
      rintro e w2 ⟨r, rfl, hr, hb2⟩
      have HL2 : Hid (L2 w w2 bn bv bm n (k + 1) k k Ns Vs A B C D fn fv fm) := HL.out.setN.mono hb2
      have zbv : bv < w2.heap.size := HL2.out.vrow.lt
      have e1 := HL2.out.vrow.cell (i := k) hlt
      rw [if_neg (by omega)] at e1
      have g1 := HL2.out.vrow.frozen k
      clear hb2 y0 y1 y2 y3 e0 g0 zbn zW
      go_wp2_with fail
      have HL3 : Hid (L2 w (w2.setCell ⟨bv, k, none⟩ (.string r)) bn bv bm n (k + 1) (k + 1) k Ns (upd Vs k r) A B C D fn fv fm) := HL2.out.setV (Nat.le_refl _) r
      clear e1 g1 zbv
      generalize w2.setCell ⟨bv, k, none⟩ (.string r) = w3 at HL3 ⊢
      have l1 : bn < w3.heap.size := HL3.out.nrow.lt
      have l2 : bv < w3.heap.size := HL3.out.vrow.lt
      have l3 : bm < w3.heap.size := HL3.out.mrow.lt
      have q1 := HL3.out.nrow.cell (i := k) hlt
      rw [if_pos (by omega)] at q1
      have q2 := HL3.out.vrow.cell (i := k) hlt
      rw [if_pos (by omega), upd_at] at q2
      have q3 := HL3.out.mrow.cell (i := k * 2) (by omega)
      rw [if_neg (by omega)] at q3
      have q4 := HL3.out.mrow.cell (i := k * 2 + 1) (by omega)
      rw [if_neg (by omega)] at q4
      have q5 := HL3.out.mrow.frozen (k * 2)
      have q6 := HL3.out.mrow.frozen (k * 2 + 1)
      have hcv : ∀ (w : World) (s : ByteArray), (convert 9 28 (.string s)).run Yba.prog w = .ok (.slice (some ⟨w.heap.size, 0, none⟩) s.size (bcap w s)) (w.drew.alloc (bobj w s)) := conv_run
      go_region
      · go_wp2_with fail
        go_roundw
        case rel =>
          have HS := HL3.out.fin1 (bcap w3.drew (Ns k)) (bcap (w3.alloc (bobj w3.drew (Ns k))).drew.drew r) r (upd_at _ _ _) w3.drew (w3.alloc (bobj w3.drew (Ns k))).drew.drew
          exact ⟨k + 1, upd Vs k r, _, _, _, _, by omega, by go_num, HS, vs_more HV.out (by omega)⟩
        case measure => simp [intOf]; omega
      · go_wp2_with fail
        go_roundw
        case rel =>
          have HS := HL3.out.fin2 (bcap (w3.alloc (bobj w3.drew r)).drew.drew (Ns k)) (bcap w3.drew r) r (upd_at _ _ _) w3.drew (w3.alloc (bobj w3.drew r)).drew.drew
          exact ⟨k + 1, upd Vs k r, _, _, _, _, by omega, by go_num, HS, vs_more HV.out (by omega)⟩
        case measure => simp [intOf]; omega
    · obtain rfl : k = n := by omega
      have HES : Hid (ES w wr bn bv bm k Ns Vs A B C D) := es_of HL.out hn
      clear hk hlt
      go_wp2_with fail
      refine HK.out _ _ ?_
      exact p3_8 ao _ c pick least tm mal inv name id op w bn bv bm Ns Vs A B C D _ _ _ _ _ _ _ _ _ _ _ _ _ _ _ _ _ _ _ _ _ _ _ _ _ _ _ _ _ _ _ _ _ _ _ _ _ _ _ _ _ _ _ _ _ _ _ _ _ _ _ _ _ _ _ _ _ _ _ _ _ _ _ _ _ _ _ _ _ _ _ _ _ _ _ _ _ _ _ _ _ _ _ _ _ _ _ _ _ _ _ _ _ _ _ _ _ _ _ _ _ _ _ _ _ _ _ _ _ _ _ _ _ _ _ _ _ _ _ _ _ _ _ _ _ _ _ _ _ _ _ _ _ _ _ _ _ _ _ _ _ _ _ _ _ _ _ _ _ _ _ _ _ _ _ _ _ _ _ _ _ _ _ _ _ _ _ _ _ _ _ _ _ _ _ _ _ _ _ _ _ _ _ _ _ _ _ _ _ _ _ _ _ _ _ _ _ _ _ _ _ _ _ _ _ _ _ _ _ _ _ _ _ _ _ _ _ _ _ _ _ _ _ _ _ _ _ _ _ _ _ _ _ _ _ _ _ _ _ _ _ _ _ _ _ HES.out HV.out hp
end Go.Proofs.Ybulkdrdk.Parts
