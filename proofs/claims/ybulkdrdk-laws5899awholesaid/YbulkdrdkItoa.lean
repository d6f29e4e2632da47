/-
  zzs5899aitoa by its contract
-/
import Derived.Test.YbulkdrdkParse
import Derived.Lib.SlBytesRow
namespace Go.Proofs.Ybulkdrdk.Parts
open Go.ChangeShapes Go.WideShapes Go.ChangeAt Go.RowKit
set_option linter.unusedVariables false

/-- some string, not too long; nothing that lay there has turned -/
def StrPost (w : World) (m : Nat) (e : Ending) (w' : World) : Prop := ∃ r : ByteArray, e = .returned (.string r) ∧ r.size ≤ m ∧ Below w.heap.size w w'

structure Buf (w wr : World) (g : Nat → Int) : Prop where
  below : Below w.heap.size w wr
  row : wr.rowIs w.heap.size 86 24 (fun k => .int .u8 (g k))

theorem buf_set {w wr : World} {g : Nat → Int} (h : Buf w wr g) (p : Nat) (c : Int) : Buf w (wr.setCell ⟨w.heap.size, p, none⟩ (.int .u8 c)) (fun k => if k = p then c else g k) :=
  ⟨h.below.setCell (p := ⟨w.heap.size, p, none⟩) (Nat.le_refl _) _, (h.row.set p _).congr (fun k _ => by
    by_cases e : k = p
    · rw [if_pos e, if_pos e]
    · rw [if_neg e, if_neg e])⟩

theorem buf_new (w : World) : Buf w (w.alloc (.cells #[.int .u8 0, .int .u8 0, .int .u8 0, .int .u8 0, .int .u8 0, .int .u8 0, .int .u8 0, .int .u8 0, .int .u8 0, .int .u8 0, .int .u8 0, .int .u8 0, .int .u8 0, .int .u8 0, .int .u8 0, .int .u8 0, .int .u8 0, .int .u8 0, .int .u8 0, .int .u8 0, .int .u8 0, .int .u8 0, .int .u8 0, .int .u8 0] 86)) (fun _ => 0) := by
  refine ⟨(Below.refl _ _).alloc (Nat.le_refl _) _, _, Deep.blk_alloc_new _ _, rfl, fun i hi => ?_⟩
  rw [show (#[.int .u8 0, .int .u8 0, .int .u8 0, .int .u8 0, .int .u8 0, .int .u8 0, .int .u8 0, .int .u8 0, .int .u8 0, .int .u8 0, .int .u8 0, .int .u8 0, .int .u8 0, .int .u8 0, .int .u8 0, .int .u8 0, .int .u8 0, .int .u8 0, .int .u8 0, .int .u8 0, .int .u8 0, .int .u8 0, .int .u8 0, .int .u8 0] : Array Value) = Array.replicate 24 (.int .u8 0) from rfl]
  simp [hi]

theorem buf_str {w wr : World} {g : Nat → Int} (h : Buf w wr g) (p : Nat) (hp : p ≤ 24) : ∃ r : ByteArray, r.size = 24 - p ∧ ∀ c, (convert 28 9 (.slice (some ⟨w.heap.size, p, none⟩) (24 - p) c)).run Yba.prog wr = .ok (.string r) wr := by
  refine ⟨strOfNums ((List.range (24 - p)).map fun i => g (p + i)), by rw [strOfNums_size]; simp, fun c => ?_⟩
  refine run_convert_bytes_arg wr 28 5 Yba.underlying28 Yba.underlying5 w.heap.size p (24 - p) c _ (by simp) (fun i hi => ?_) 9 Yba.underlying9
  rw [h.row.cell (by omega)]
  simp [hi]

theorem pow_step {x : Int} {p : Nat} (h0 : 0 ≤ x) (h : x < 10 ^ (p - 3)) (hp : 4 ≤ p) : 0 ≤ x / 10 ∧ x / 10 < 10 ^ (p - 1 - 3) := by
  obtain ⟨q, rfl⟩ : ∃ q, p = q + 4 := ⟨p - 4, by omega⟩
  have e1 : q + 4 - 3 = q + 1 := by omega
  have e2 : q + 4 - 1 - 3 = q := by omega
  rw [e1, Int.pow_succ] at h
  rw [e2]
  omega

theorem pow_more {x : Int} {p : Nat} (h0 : 0 ≤ x) (h : x < 10 ^ (p - 1 - 3)) (hp : 4 ≤ p) (hx : ¬ x = 0) : 4 ≤ p - 1 := by
  rcases Nat.lt_or_ge 4 p with h1 | h1
  · omega
  · obtain rfl : p = 4 := by omega
    simp at h
    omega

set_option maxRecDepth 100000 in
theorem p10_6 (n : Int) (p : Nat) (v3 : Value) (u6 u7 u8 u9 u10 u11 u12 u13 u14 u15 u16 u17 u18 u19 u20 u21 u22 u23 u24 u25 u26 u27 u28 u29 u30 u31 u32 u33 : Value) (w W : World) (hp : 4 ≤ p ∧ p ≤ 23) (g : Nat → Int) (hb : Buf w W g) :
    Code.wp Yba.prog (tl 6 (Yba.f10.body.getD .skip)) (bodyPost Yba.prog Yba.f10 (StrPost w 24)) ⟨#[.int .i64 n, undef, .string ⟨#[]⟩, v3, .pointer (some ⟨w.heap.size, 0, none⟩), .int .i64 (p : Int), u6, u7, u8, u9, u10, u11, u12, u13, u14, u15, u16, u17, u18, u19, u20, u21, u22, u23, u24, u25, u26, u27, u28, u29, u30, u31, u32, u33], []⟩ W := by
  have HB : Hid (Buf w W g) := hb
  have zr : w.heap.size < W.heap.size := hb.row.lt
  conv => arg 2; whnf
  refine wp_seq_k fun K hK => ?_
  have HK : Hid _ := hK
  clear hK
  by_cases hn : n < 0
  · obtain ⟨q, rfl⟩ : ∃ q, p = q + 1 := ⟨p - 1, by omega⟩
    have e1 := hb.row.cell (i := q) (by omega)
    have e2 := hb.row.frozen q
    clear hb
    go_wp2_with fail
    refine HK.out _ _ ?_
    clear HK
    have HB2 : Hid (Buf w (W.setCell ⟨w.heap.size, q, none⟩ (.int .u8 45)) _) := buf_set HB.out q 45
    generalize W.setCell ⟨w.heap.size, q, none⟩ (.int .u8 45) = V at HB2 ⊢
    obtain ⟨r, hr, hcv⟩ := buf_str HB2.out q (by omega)
    have hq : (q : Int) ≤ 24 := by omega
    go_wp2_with fail
    go_ret
    exact ⟨r, rfl, by omega, HB2.out.below⟩
  · clear hb
    go_wp2_with fail
    refine HK.out _ _ ?_
    clear HK
    obtain ⟨r, hr, hcv⟩ := buf_str HB.out p (by omega)
    have hq : (p : Int) ≤ 24 := by omega
    go_wp2_with fail
    go_ret
    exact ⟨r, rfl, by omega, HB.out.below⟩
set_option maxRecDepth 100000 in
theorem p10_5 (n x : Int) (u6 u7 u8 u9 u10 u11 u12 u13 u14 u15 u16 u17 u18 u19 u20 u21 u22 u23 u24 u25 u26 u27 u28 u29 u30 u31 u32 u33 : Value) (w W : World) (hx : 0 ≤ x ∧ x ≤ 18446744073709551615) (hn : -9223372036854775808 ≤ n) (hn2 : n ≤ 9223372036854775807) (g : Nat → Int) (hb : Buf w W g) :
    Code.wp Yba.prog (tl 5 (Yba.f10.body.getD .skip)) (bodyPost Yba.prog Yba.f10 (StrPost w 24)) ⟨#[.int .i64 n, undef, .string ⟨#[]⟩, .int .u64 x, .pointer (some ⟨w.heap.size, 0, none⟩), .int .i64 24, u6, u7, u8, u9, u10, u11, u12, u13, u14, u15, u16, u17, u18, u19, u20, u21, u22, u23, u24, u25, u26, u27, u28, u29, u30, u31, u32, u33], []⟩ W := by
  have HB0 : Hid (Buf w W g) := hb
  clear hb
  conv => arg 2; whnf
  refine wp_seq_k fun K hK => ?_
  have HK : Hid _ := hK
  clear hK
  go_wp2_with fail
  go_loopw [3, 5] (fun u i wr => ∃ (p : Nat) (y : Int) (g' : Nat → Int), i = .int .i64 ((p : Int) + 1) ∧ u = .int .u64 y ∧ 4 ≤ p ∧ p ≤ 23 ∧ 0 ≤ y ∧ Hid (y < 10 ^ (p - 3)) ∧ y ≤ 18446744073709551615 ∧ Hid (Buf w wr g')) (fun _ i _ => (intOf i).toNat)
  case atStart => exact ⟨23, x, g, rfl, rfl, by omega, by omega, hx.1, (show x < 10 ^ (23 - 3) by have : (10 : Int) ^ (23 - 3) = 100000000000000000000 := rfl; omega), hx.2, HB0⟩
  case round =>
    obtain ⟨p, y, g', rfl, rfl, hp1, hp2, hy, hy2, hy3, HB⟩ := hrel
    have zr : w.heap.size < wr.heap.size := HB.out.row.lt
    have e1 := HB.out.row.cell (i := p) (by omega)
    have e2 := HB.out.row.frozen p
    obtain ⟨hq1, hq2⟩ := pow_step hy hy2.out hp1
    have Hq2 : Hid (y / 10 < 10 ^ (p - 1 - 3)) := hq2
    clear hq2
    by_cases hz : y / 10 = 0
    · have hz1 : (y / 10 == 0) = true := by rw [hz]; rfl
      go_wp2_with fail
      refine HK.out _ _ ?_
      exact p10_6 n p _ _ _ _ _ _ _ _ _ _ _ _ _ _ _ _ _ _ _ _ _ _ _ _ _ _ _ _ _ w _ ⟨by omega, by omega⟩ _ (buf_set HB.out p _)
    · have hz1 : (y / 10 == 0) = false := by rw [beq_eq_false_iff_ne]; exact hz
      have hp4 := pow_more hq1 Hq2.out hp1 hz
      go_wp2_with fail
      go_roundw
      case rel => exact ⟨p - 1, y / 10, _, congrArg (Value.int .i64) (by omega), rfl, hp4, by omega, hq1, Hq2, by omega, buf_set HB.out p _⟩
      case measure => simp [intOf]
set_option maxRecDepth 100000 in
theorem itoa_any (n : Int) (w : World) (h1 : -9223372036854775808 ≤ n) (h2 : n ≤ 9223372036854775807) : Calls Yba.prog 10 #[.int .i64 n] w (StrPost w 24) := by
  by_cases hn : n < 0
  · go_enter Yba.func10, Yba.ntmps10
    refine wp_seq_k fun K hK => ?_
    have HK : Hid _ := hK
    clear hK
    go_wp2_with fail
    refine HK.out _ _ ?_
    clear HK K
    refine wp_seq_k fun K hK => ?_
    have HK : Hid _ := hK
    clear hK
    go_wp2_with fail
    refine HK.out _ _ ?_
    clear HK K
    refine wp_seq_k fun K hK => ?_
    have HK : Hid _ := hK
    clear hK
    go_wp2_with fail
    refine HK.out _ _ ?_
    clear HK K
    refine wp_seq_k fun K hK => ?_
    have HK : Hid _ := hK
    clear hK
    go_wp2_with fail
    refine HK.out _ _ ?_
    clear HK K
    refine wp_seq_k fun K hK => ?_
    have HK : Hid _ := hK
    clear hK
    go_wp2_with fail
    refine HK.out _ _ ?_
    clear HK K
    exact p10_5 n _ _ _ _ _ _ _ _ _ _ _ _ _ _ _ _ _ _ _ _ _ _ _ _ _ _ _ _ _ w _ (by rw [u64_is, u64_is]; omega) h1 h2 _ (buf_new w)
  · go_enter Yba.func10, Yba.ntmps10
    refine wp_seq_k fun K hK => ?_
    have HK : Hid _ := hK
    clear hK
    go_wp2_with fail
    refine HK.out _ _ ?_
    clear HK K
    refine wp_seq_k fun K hK => ?_
    have HK : Hid _ := hK
    clear hK
    go_wp2_with fail
    refine HK.out _ _ ?_
    clear HK K
    refine wp_seq_k fun K hK => ?_
    have HK : Hid _ := hK
    clear hK
    go_wp2_with fail
    refine HK.out _ _ ?_
    clear HK K
    refine wp_seq_k fun K hK => ?_
    have HK : Hid _ := hK
    clear hK
    go_wp2_with fail
    refine HK.out _ _ ?_
    clear HK K
    refine wp_seq_k fun K hK => ?_
    have HK : Hid _ := hK
    clear hK
    go_wp2_with fail
    refine HK.out _ _ ?_
    clear HK K
    exact p10_5 n _ _ _ _ _ _ _ _ _ _ _ _ _ _ _ _ _ _ _ _ _ _ _ _ _ _ _ _ _ w _ (by omega) h1 h2 _ (buf_new w)

end Go.Proofs.Ybulkdrdk.Parts
