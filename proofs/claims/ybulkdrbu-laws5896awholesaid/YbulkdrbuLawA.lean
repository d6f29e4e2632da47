/-
  THE WALK of 'LawS5896AWhole'.
-/
import Derived.Test.YbulkdrbuParts
import Derived.LaidEqlPtr
import Derived.Lib.SmallJoins
namespace Go.Proofs.Ybulkdrbu.PartsA
open Go.ChangeShapes Go.WideShapes Go.ChangeAt Go.RowKit
set_option linter.unusedVariables false

/-- the listener's cells -/
abbrev lcells (a0 : Bool) (a2 a3 : Int) (bm : Nat) : Array Value :=
  #[.nilIface, .int .i64 a2, .int .i64 a3, .chan none, .int .u64 0, .int .u32 0, .int .i32 0, .int .u32 0, .bool a0, .map (some bm), .map none]

structure LS (w wr : World) (a0 : Bool) (a2 a3 : Int) : Prop where
  below : Below w.heap.size w wr
  lis : wr.heap[w.heap.size + 1]? = some (.cells (lcells a0 a2 a3 w.heap.size) 47 (0, 0))
  map : ∃ es c, wr.heap[w.heap.size]? = some (.map es c) ∧ IntKeys es

theorem ls_start (w : World) (a0 : Bool) (a2 a3 : Int) : LS w ((w.alloc (.map #[] 0)).alloc (.cells (lcells a0 a2 a3 w.heap.size) 47)) a0 a2 a3 := by
  refine ⟨((Below.refl _ _).alloc (Nat.le_refl _) _).alloc (by simp) _, ?_, #[], 0, ?_, fun e he => by simp at he⟩
  · show ((w.heap.push _).push _)[w.heap.size + 1]? = _
    rw [Array.getElem?_push, if_pos (by simp)]
  · show ((w.heap.push _).push _)[w.heap.size]? = _
    simp [Array.getElem?_push]

theorem lis_cell {w wr : World} {a0 : Bool} {a2 a3 : Int} (h : LS w wr a0 a2 a3) (i : Nat) (v : Value) (hv : (lcells a0 a2 a3 w.heap.size)[i]? = some v) : wr.cell? ⟨w.heap.size + 1, i, none⟩ = some v := by
  simp only [World.cell?, h.lis]
  simpa using hv

theorem ls_lt {w wr : World} {a0 : Bool} {a2 a3 : Int} (h : LS w wr a0 a2 a3) : w.heap.size + 1 < wr.heap.size := by
  obtain ⟨h1, _⟩ := Array.getElem?_eq_some_iff.1 h.lis
  exact h1

abbrev offer0 : Obj := .cells #[.int .u8 0, .int .u8 0, .int .u8 0, .int .u8 0, .int .u8 0, .int .u8 0, .int .u8 0, .int .u8 0, .int .u8 0, .int .u8 0, .int .u8 0, .int .u8 0, .int .u8 0, .int .u8 0, .int .u8 0, .int .u8 0, .pointer none, .pointer none] 53

theorem turn_below {B b : Nat} {w w' : World} (h : MapTurn b w w') (hB : B ≤ b) : Below B w w' :=
  ⟨h.os, h.tape, h.output, by rw [h.size]; exact Nat.le_refl _, fun k hk => h.block k (by omega)⟩

theorem ls_round {w wr : World} {a0 : Bool} {a2 a3 : Int} (h : LS w wr a0 a2 a3) (n : Int) (v : Value) :
    ∃ W2, (Instr.mapUpdate 27 (.map (some w.heap.size)) (.int .u32 n) v).run Yba.prog (wr.alloc offer0) = .ok () W2 ∧ LS w W2 a0 a2 a3 := by
  have hz := ls_lt h
  obtain ⟨es, c, hm, hk⟩ := h.map
  have hm' : (wr.alloc offer0).heap[w.heap.size]? = some (.map es c) := (Below.heap_alloc _ _ _ (by omega)).trans hm
  obtain ⟨W2, es', c', hrun, hb, hk', ht⟩ := upd_int Yba.underlying27 Yba.underlying38 hm' hk n v
  refine ⟨W2, hrun, (h.below.alloc (by omega) _).trans (turn_below ht (Nat.le_refl _)), ?_, es', c', hb, hk'⟩
  rw [ht.block _ (by omega), Below.heap_alloc _ _ _ hz]
  exact h.lis

/-! ### comparisons; len; cap -/
theorem run_eql_chan {P : Program} (w : World) {t e : TypeId} {d : ChanDir} (a b : Option Nat) (h : P.underlying t = some (.chan d e)) : (binOp .eql t (.chan a) (.chan b)).run P w = .ok (.bool (a == b)) w := by
  have h1 : ∀ n : Nat, (Op.equalIn (n + 1) t (.chan a) (.chan b)).run P w = .ok (a == b) w := fun n => by simp [Op.equalIn, run_underlying h]
  simp only [binOp]
  simp [Op.equal, Op.maxDepth, h1 9999]

theorem run_neq_chan {P : Program} (w : World) {t e : TypeId} {d : ChanDir} (a b : Option Nat) (h : P.underlying t = some (.chan d e)) : (binOp .neq t (.chan a) (.chan b)).run P w = .ok (.bool (!(a == b))) w := by
  have h1 : ∀ n : Nat, (Op.equalIn (n + 1) t (.chan a) (.chan b)).run P w = .ok (a == b) w := fun n => by simp [Op.equalIn, run_underlying h]
  simp only [binOp]
  simp [Op.equal, Op.maxDepth, h1 9999]

theorem run_len_map {P : Program} {w : World} {t ty k e : TypeId} {b c : Nat} {es : Array MapEntry} (ht : P.underlying t = some (.map k e)) (hb : w.heap[b]? = some (.map es c)) : (Builtin.len_ #[t] ty #[.map (some b)]).run P w = .ok (goInt es.size) w := by
  simp [Builtin.len_, run_underlying ht, MapKept.run_getObj_map hb]

theorem run_len_ch {P : Program} {w : World} {t ty e : TypeId} {d : ChanDir} {b n s r : Nat} {f : Bool} (ht : P.underlying t = some (.chan d e)) (hb : w.heap[b]? = some (.chan n #[] f s r false)) : (Builtin.len_ #[t] ty #[.chan (some b)]).run P w = .ok (goInt 0) w := by
  simp [Builtin.len_, run_underlying ht, run_getObj_chan _ _ hb]
theorem run_cap_ch {P : Program} {w : World} {t ty e : TypeId} {d : ChanDir} {b n s r : Nat} {f : Bool} (ht : P.underlying t = some (.chan d e)) (hb : w.heap[b]? = some (.chan n #[] f s r false)) : (Builtin.cap_ #[t] ty #[.chan (some b)]).run P w = .ok (goInt n) w := by
  simp [Builtin.cap_, run_underlying ht, run_getObj_chan _ _ hb]

abbrev tunnel0 : Obj := .cells #[.nilIface, .pointer none, .int .i32 0, .int .u32 0, .pointer none, .int .i32 0, .int .u32 0, .slice none 0 0, .int .u32 0, .int .i32 0, .int .u32 0, .int .u32 0] 70

abbrev scells (l : Value) (cr cd mo mt : Nat) : Array Value := #[l, .chan (some cr), .chan (some cd), .bool false, .map (some mo), .slice none 0 0, .map (some mt)]

theorem cell_of {W : World} {b : Nat} {cs : Array Value} {t : TypeId} (h : W.heap[b]? = some (.cells cs t (0, 0))) (i : Nat) (v : Value) (hv : cs[i]? = some v) : W.cell? ⟨b, i, none⟩ = some v := by
  simp only [World.cell?, h]
  simpa using hv

theorem lt_of_heap {W : World} {b : Nat} {o : Obj} (h : W.heap[b]? = some o) : b < W.heap.size := by
  obtain ⟨h1, _⟩ := Array.getElem?_eq_some_iff.1 h
  exact h1

set_option maxRecDepth 100000 in
set_option maxHeartbeats 2000000 in
theorem law_any (a0 : Bool) (ao : Option Addr) (len cap : Nat) (z : Nat → Int) (a2 a3 : Int) (w : World) (hlen : len ≤ 65536)
    (hc : ∀ k, k < len → ∃ b o, ao = some ⟨b, o, none⟩ ∧ b < w.heap.size ∧ w.cell? ⟨b, o + k, none⟩ = some (.int .u32 (z k))) :
    Calls Yba.prog 3 #[.bool a0, .slice ao len cap, .int .i64 a2, .int .i64 a3] w fun e w' => e = .returned (.bool true) ∧ Below w.heap.size w w' := by
  have hmm := @run_makeMap Yba.prog
  go_enter Yba.func3, Yba.ntmps3
  go_wp2
  clear hmm
  go_loopw [27] (fun i wr => ∃ k : Nat, k ≤ len ∧ i = .int .i64 k ∧ LS w wr a0 a2 a3) (fun i _ => len - (intOf i).toNat)
  case atStart => exact ⟨0, by omega, rfl, ls_start _ _ _ _⟩
  case round =>
    obtain ⟨k, hk, rfl, hls⟩ := hrel
    have hz := ls_lt hls
    have g9 := lis_cell hls 9 (.map (some w.heap.size)) rfl
    by_cases hlt : k < len
    · obtain ⟨b, o, rfl, hb, hcb⟩ := hc k hlt
      have hcb' : wr.cell? ⟨b, o + k, none⟩ = some (.int .u32 (z k)) := (hls.below.cell (p := ⟨b, o + k, none⟩) hb).trans hcb
      obtain ⟨W2, hrun, hls2⟩ := ls_round hls (z k) (.pointer (some ⟨wr.heap.size, 0, none⟩))
      have H2 : Hid (LS w W2 a0 a2 a3) := hls2
      clear hls hls2
      go_wp2
      go_roundw
      case rel => exact ⟨k + 1, by omega, by go_num, H2.out⟩
      case measure => simp [intOf]; omega
    · obtain ⟨es, c, hm, hik⟩ := hls.map
      have hl0 : (Builtin.len_ #[27] 3 #[.map (some w.heap.size)]).run Yba.prog wr = .ok (goInt es.size) wr := run_len_map Yba.underlying27 hm
      clear hc
      obtain ⟨i47, hi47, _⟩ : ∃ i, Yba.prog.info? 47 = some i ∧ True := by
        have h : (Yba.prog.info? 47).map (fun _ => true) = some true := by kernel_rfl
        obtain ⟨i, h1, h2⟩ := Option.map_eq_some_iff.1 h
        exact ⟨i, h1, trivial⟩
      obtain ⟨i59, hi59, hsz59⟩ : ∃ i, Yba.prog.info? 59 = some i ∧ i.size ≠ 0 := by
        have h : (Yba.prog.info? 59).map (fun i => decide (i.size = 0)) = some false := by kernel_rfl
        obtain ⟨i, h1, h2⟩ := Option.map_eq_some_iff.1 h
        exact ⟨i, h1, by simpa using h2⟩
      have qL : ∀ (w : World) (a : Addr), (binOp .neq 23 (.pointer (some a)) (.pointer (some a))).run Yba.prog w = .ok (.bool false) w := fun w a => Lib.run_neq_ptr_same w a Yba.underlying23 hi47
      have qS : ∀ (w : World) (a : Option Addr) (n c n' c' : Nat), (binOp .neq 56 (.slice a n c) (.slice none n' c')).run Yba.prog w = .ok (.bool (!a.isNone)) w := fun w a n c n' c' => run_neq_slice_nil_any w _ _ a n c n' c' Yba.underlying56
      have qC : ∀ (w : World) (a b : Option Nat), (binOp .eql 30 (.chan a) (.chan b)).run Yba.prog w = .ok (.bool (a == b)) w := fun w a b => run_eql_chan w a b Yba.underlying30
      have qC2 : ∀ (w : World) (a b : Option Nat), (binOp .neq 30 (.chan a) (.chan b)).run Yba.prog w = .ok (.bool (!(a == b))) w := fun w a b => run_neq_chan w a b Yba.underlying30
      have qM : ∀ (w : World) (a : Option Nat), (binOp .eql 55 (.map a) (.map none)).run Yba.prog w = .ok (.bool a.isNone) w := fun w a => run_eql_map_nil w _ _ _ a Yba.underlying55
      have qM2 : ∀ (w : World) (a : Option Nat), (binOp .eql 57 (.map a) (.map none)).run Yba.prog w = .ok (.bool a.isNone) w := fun w a => run_eql_map_nil w _ _ _ a Yba.underlying57
      have qM3 : ∀ (w : World) (a : Option Nat), (binOp .neq 45 (.map a) (.map none)).run Yba.prog w = .ok (.bool (!a.isNone)) w := fun w a => Go.run_neq_map_nil w _ _ _ a Yba.underlying45
      clear hi47
      go_wp2_with fail
      refine (new_any _ _).mono ?_
      rintro e w6 ⟨bs, cr, cd, mo, mt, rfl, S⟩
      obtain ⟨s1, s2, s3, s4, s5⟩ := S.new
      obtain ⟨p1, p2, p3, p4, p5, p6⟩ := S.apart
      have hs6 := S.below.size
      have L6 : w6.heap[w.heap.size + 1]? = some (.cells (lcells a0 a2 a3 w.heap.size) 47 (0, 0)) := (S.below.block _ (by omega)).trans hls.lis
      have M6 : w6.heap[w.heap.size]? = some (.map es c) := (S.below.block _ (by omega)).trans hm
      have B6 : Hid (Below w.heap.size w w6) := hls.below.trans (S.below.mono (by omega))
      have c0 := cell_of S.cells 0 _ rfl
      have c1 := cell_of S.cells 1 _ rfl
      have c2 := cell_of S.cells 2 _ rfl
      have c3 := cell_of S.cells 3 _ rfl
      have c4 := cell_of S.cells 4 _ rfl
      have c5 := cell_of S.cells 5 _ rfl
      have c6 := cell_of S.cells 6 _ rfl
      have d0 := cell_of L6 0 _ rfl
      have d1 := cell_of L6 1 _ rfl
      have d2 := cell_of L6 2 _ rfl
      have d3 := cell_of L6 3 _ rfl
      have d8 := cell_of L6 8 _ rfl
      have d9 := cell_of L6 9 _ rfl
      have d10 := cell_of L6 10 _ rfl
      have n1 : (Builtin.cap_ #[30] 3 #[.chan (some cr)]).run Yba.prog w6 = .ok (goInt 1) w6 := run_cap_ch Yba.underlying30 S.ready
      have n2 : (Builtin.len_ #[30] 3 #[.chan (some cr)]).run Yba.prog w6 = .ok (goInt 0) w6 := run_len_ch Yba.underlying30 S.ready
      have n3 : (Builtin.cap_ #[30] 3 #[.chan (some cd)]).run Yba.prog w6 = .ok (goInt 0) w6 := run_cap_ch Yba.underlying30 S.done
      have n4 : (Builtin.len_ #[55] 3 #[.map (some mo)]).run Yba.prog w6 = .ok (goInt 0) w6 := run_len_map Yba.underlying55 S.offers
      have n5 : (Builtin.len_ #[57] 3 #[.map (some mt)]).run Yba.prog w6 = .ok (goInt 0) w6 := run_len_map Yba.underlying57 S.tunnels
      have n6 : (Builtin.len_ #[27] 3 #[.map (some w.heap.size)]).run Yba.prog w6 = .ok (goInt es.size) w6 := run_len_map Yba.underlying27 M6
      clear hl0 g9
      go_wp2_with fail
      refine (new_any _ _).mono ?_
      rintro e w8 ⟨bs2, cr2, cd2, mo2, mt2, rfl, S2⟩
      clear n1 n2 n3 n4 n5 n6
      obtain ⟨s1', s2', s3', s4', s5'⟩ := S2.new
      obtain ⟨p1', p2', p3', p4', p5', p6'⟩ := S2.apart
      have hs8 := S2.below.size
      have b1 := lt_of_heap S.cells
      have b2 := lt_of_heap S.ready
      have b3 := lt_of_heap S.done
      have b4 := lt_of_heap S.offers
      have b5 := lt_of_heap S.tunnels
      have L8 : w8.heap[w.heap.size + 1]? = some (.cells (lcells a0 a2 a3 w.heap.size) 47 (0, 0)) := (S2.below.block _ (by omega)).trans L6
      have M8 : w8.heap[w.heap.size]? = some (.map es c) := (S2.below.block _ (by omega)).trans M6
      have C8 : w8.heap[bs]? = some (.cells (scells (.pointer (some ⟨w.heap.size + 1, 0, none⟩)) cr cd mo mt) 59 (0, 0)) := (S2.below.block _ b1).trans S.cells
      have O8 : w8.heap[mo]? = some (.map #[] 0) := (S2.below.block _ b4).trans S.offers
      have T8 : w8.heap[mt]? = some (.map #[] 0) := (S2.below.block _ b5).trans S.tunnels
      have B8 : Hid (Below w.heap.size w w8) := B6.out.trans (S2.below.mono (by omega))
      have e1 := cell_of C8 1 _ rfl
      have e2 := cell_of C8 2 _ rfl
      have e4 := cell_of C8 4 _ rfl
      have e6 := cell_of C8 6 _ rfl
      have f0 := cell_of S2.cells 0 _ rfl
      have f1 := cell_of S2.cells 1 _ rfl
      have f2 := cell_of S2.cells 2 _ rfl
      have x1 : ∀ nq : Nat, (binOp .eql 50 (.pointer (some ⟨bs2, 0, none⟩)) (.pointer (some ⟨bs, 0, none⟩))).run Yba.prog (w8.drewN nq) = .ok (.bool false) (w8.drewN nq) := fun nq =>
        run_eql_ptr_other (w := w8.drewN nq) Yba.underlying50 hi59 hsz59 (fun h => by have := congrArg Addr.block h; simp at this; omega) S2.cells C8
      have x2 : (some cr2 == some cr) = false := by simp; omega
      have x3 : (some cd2 == some cd) = false := by simp; omega
      clear c0 c1 c2 c3 c4 c5 c6 d0 d1 d2 d3 d8 d9 d10 hi59 hsz59
      have H : Hid (LS w wr a0 a2 a3 ∧ Session wr w6 (.pointer (some ⟨w.heap.size + 1, 0, none⟩)) bs cr cd mo mt ∧ Session w6 w8 (.pointer (some ⟨w.heap.size + 1, 0, none⟩)) bs2 cr2 cd2 mo2 mt2) := ⟨hls, S, S2⟩
      have HL : Hid (w8.heap[w.heap.size + 1]? = some (.cells (lcells a0 a2 a3 w.heap.size) 47 (0, 0)) ∧ w8.heap[w.heap.size]? = some (.map es c) ∧ w8.heap[bs]? = some (.cells (scells (.pointer (some ⟨w.heap.size + 1, 0, none⟩)) cr cd mo mt) 59 (0, 0)) ∧ w8.heap[mo]? = some (.map #[] 0) ∧ w8.heap[mt]? = some (.map #[] 0)) := ⟨L8, M8, C8, O8, T8⟩
      clear hls S S2 L6 M6 L8 M8 C8 O8 T8 hm hik
      go_wp2_with fail
      go_quiet (fail)
      obtain ⟨L8, M8, C8, O8, T8⟩ := HL.out
      obtain ⟨W9, es9, c9, r9, h9, _, t9⟩ := upd_int (P := Yba.prog) (w := w8.drewN nq) Yba.underlying55 Yba.underlying38 O8 (fun e he => by simp at he) 1 (.agg #[])
      have L9 : W9.heap[w.heap.size + 1]? = some (.cells (lcells a0 a2 a3 w.heap.size) 47 (0, 0)) := (t9.block _ (by omega)).trans L8
      have M9 : W9.heap[w.heap.size]? = some (.map es c) := (t9.block _ (by omega)).trans M8
      have C9 : W9.heap[bs]? = some (.cells (scells (.pointer (some ⟨w.heap.size + 1, 0, none⟩)) cr cd mo mt) 59 (0, 0)) := (t9.block _ (by omega)).trans C8
      have T9 : W9.heap[mt]? = some (.map #[] 0) := (t9.block _ (by omega)).trans T8
      have D9 : W9.heap[bs2]? = some (.cells (scells (.pointer (some ⟨w.heap.size + 1, 0, none⟩)) cr2 cd2 mo2 mt2) 59 (0, 0)) := (t9.block _ (by omega)).trans H.out.2.2.cells
      have O9 : W9.heap[mo2]? = some (.map #[] 0) := (t9.block _ (by omega)).trans H.out.2.2.offers
      have U9 : W9.heap[mt2]? = some (.map #[] 0) := (t9.block _ (by omega)).trans H.out.2.2.tunnels
      have z9 : W9.heap.size = w8.heap.size := t9.size
      have B9 : Hid (Below w.heap.size w W9) := (B8.out.trans (Joins.below_draws _ _ nq)).trans (turn_below t9 (by omega))
      have k6 := cell_of C9 6 _ rfl
      have T9' : (W9.alloc tunnel0).heap[mt]? = some (.map #[] 0) := (Below.heap_alloc _ _ _ (lt_of_heap T9)).trans T9
      obtain ⟨W10, es10, c10, r10, h10, t10⟩ := upd_first (P := Yba.prog) Yba.underlying57 Yba.underlying60 T9' ⟨W9.heap.size, 0, none⟩ (.agg #[])
      have keep : ∀ (k : Nat) (o : Obj), k ≠ mt → W9.heap[k]? = some o → W10.heap[k]? = some o := fun k o hk h => (t10.block k hk).trans ((Below.heap_alloc _ _ _ (lt_of_heap h)).trans h)
      have L10 := keep _ _ (by omega) L9
      have M10 := keep _ _ (by omega) M9
      have D10 := keep _ _ (by omega) D9
      have O10 := keep _ _ (by omega) O9
      have U10 := keep _ _ (by omega) U9
      have B10 : Hid (Below w.heap.size w W10) := (B9.out.alloc (by omega) _).trans (turn_below t10 (by omega))
      have j4 := cell_of D10 4 _ rfl
      have j6 := cell_of D10 6 _ rfl
      have j9 := cell_of L10 9 _ rfl
      have y1 : (Builtin.len_ #[55] 3 #[.map (some mo2)]).run Yba.prog W10 = .ok (goInt 0) W10 := run_len_map Yba.underlying55 O10
      have y2 : (Builtin.len_ #[57] 3 #[.map (some mt2)]).run Yba.prog W10 = .ok (goInt 0) W10 := run_len_map Yba.underlying57 U10
      have y3 : (Builtin.len_ #[27] 3 #[.map (some w.heap.size)]).run Yba.prog W10 = .ok (goInt es.size) W10 := run_len_map Yba.underlying27 M10
      clear keep T9' L10 M10 D10 O10 U10 h10 t10
      clear L8 M8 C8 O8 T8 L9 M9 C9 T9 D9 O9 U9 z9 h9 t9
      go_wp2_with fail
      go_ret
      exact ⟨rfl, B10.out⟩
end Go.Proofs.Ybulkdrbu.PartsA
