/-
  zzs5899aparse by its contract
-/
import Derived.Test.YbulkdrdkLex
namespace Go.Proofs.Ybulkdrdk.Parts
open Go.ChangeShapes Go.WideShapes Go.ChangeAt Go.RowKit
set_option linter.unusedVariables false

set_option maxRecDepth 100000 in
theorem p7_11 (s d : ByteArray) (neg : Bool) (v2 v3 v4 v7 : Value) (u11 u12 u13 u14 u15 u16 u17 u18 u19 u20 u21 u22 u23 u24 u25 u26 u27 u28 u29 u30 u31 u32 u33 u34 u35 u36 u37 u38 u39 u40 u41 u42 u43 u44 u45 u46 u47 u48 u49 u50 u51 u52 u53 u54 u55 u56 u57 u58 u59 u60 u61 u62 u63 u64 u65 u66 u67 u68 u69 u70 u71 u72 u73 u74 u75 u76 u77 u78 u79 u80 u81 u82 u83 u84 : Value) (w : World) (hd : (d.size : Int) ≤ 140737488355328) (hdig : Hid (Dig d d.size)) (hbad : ¬ Bad d) (hb : ¬ Big neg d) :
    Code.wp Yba.prog (tl 11 (Yba.f7.body.getD .skip)) (bodyPost Yba.prog Yba.f7 (ReadPost neg d w)) ⟨#[.string s, undef, v2, v3, v4, .bool neg, .string d, v7, .string (limS neg), undef, undef, u11, u12, u13, u14, u15, u16, u17, u18, u19, u20, u21, u22, u23, u24, u25, u26, u27, u28, u29, u30, u31, u32, u33, u34, u35, u36, u37, u38, u39, u40, u41, u42, u43, u44, u45, u46, u47, u48, u49, u50, u51, u52, u53, u54, u55, u56, u57, u58, u59, u60, u61, u62, u63, u64, u65, u66, u67, u68, u69, u70, u71, u72, u73, u74, u75, u76, u77, u78, u79, u80, u81, u82, u83, u84], []⟩ w := by
  conv => arg 2; whnf
  refine wp_seq_k fun K hK => ?_
  have HK : Hid _ := hK
  clear hK
  go_wp2_with fail
  refine HK.out _ _ ?_
  clear HK K
  have hlim : val d d.size ≤ lim neg := by
    have : ¬ lim neg < val d d.size := fun h => hb (Or.inr h)
    omega
  have hlim2 : lim neg ≤ 9223372036854775808 := by cases neg <;> decide
  refine wp_seq_k fun K hK => ?_
  have HK : Hid _ := hK
  clear hK
  go_wp2_with fail
  go_loopw [9, 10] (fun a i wr => ∃ k : Nat, k ≤ d.size ∧ i = .int .i64 k ∧ a = .int .i64 (-(val d k : Int)) ∧ wr = w) (fun _ i _ => d.size - (intOf i).toNat)
  case atStart => exact ⟨0, by omega, rfl, rfl, rfl⟩
  case round =>
    obtain ⟨k, hk, rfl, rfl, rfl⟩ := hrel
    by_cases hlt : k < d.size
    · have ck : (d[k]'hlt).toNat = cc d k := cc_lt hlt
      have cb := hdig.out k hlt
      have hv : val d (k + 1) ≤ val d d.size := val_mono d (by omega)
      have hv2 : val d (k + 1) = val d k * 10 + (cc d k - 48) := rfl
      have hv3 : (val d k : Int) * 10 + (cc d k : Int) - 48 ≤ 9223372036854775808 := by omega
      go_wp2_with fail
      go_roundw
      case rel => exact ⟨k + 1, by omega, by go_num, congrArg (Value.int .i64) (by omega), trivial⟩
      case measure => simp [intOf]; omega
    · obtain rfl : k = d.size := by omega
      clear hk hlt
      go_wp2_with fail
      refine HK.out _ _ ?_
      clear HK
      have hl3 : -(9223372036854775808 : Int) ≤ -(val d d.size : Int) := by omega
      refine wp_seq_k fun K hK => ?_
      have HK : Hid _ := hK
      clear hK
      cases neg
      · have hl4 : -(9223372036854775807 : Int) ≤ -(val d d.size : Int) := by simp only [lim] at hlim; simp at hlim; omega
        go_wp2_with fail
        refine HK.out _ _ ?_
        clear HK
        go_wp2_with fail
        go_ret3
        exact ⟨_, rfl, PRes.of_fit hbad hb (by simp [sgn]), rfl⟩
      · go_wp2_with fail
        refine HK.out _ _ ?_
        clear HK
        go_wp2_with fail
        go_ret3
        exact ⟨_, rfl, PRes.of_fit hbad hb rfl, rfl⟩
set_option maxRecDepth 100000 in
theorem p7_9 (s d : ByteArray) (neg : Bool) (v2 v3 v4 v7 : Value) (u11 u12 u13 u14 u15 u16 u17 u18 u19 u20 u21 u22 u23 u24 u25 u26 u27 u28 u29 u30 u31 u32 u33 u34 u35 u36 u37 u38 u39 u40 u41 u42 u43 u44 u45 u46 u47 u48 u49 u50 u51 u52 u53 u54 u55 u56 u57 u58 u59 u60 u61 u62 u63 u64 u65 u66 u67 u68 u69 u70 u71 u72 u73 u74 u75 u76 u77 u78 u79 u80 u81 u82 u83 u84 : Value) (w : World) (hd : (d.size : Int) ≤ 140737488355328) (hdig : Hid (Dig d d.size)) (hbad : ¬ Bad d) :
    Code.wp Yba.prog (tl 9 (Yba.f7.body.getD .skip)) (bodyPost Yba.prog Yba.f7 (ReadPost neg d w)) ⟨#[.string s, undef, v2, v3, v4, .bool neg, .string d, v7, .string (limS neg), undef, undef, u11, u12, u13, u14, u15, u16, u17, u18, u19, u20, u21, u22, u23, u24, u25, u26, u27, u28, u29, u30, u31, u32, u33, u34, u35, u36, u37, u38, u39, u40, u41, u42, u43, u44, u45, u46, u47, u48, u49, u50, u51, u52, u53, u54, u55, u56, u57, u58, u59, u60, u61, u62, u63, u64, u65, u66, u67, u68, u69, u70, u71, u72, u73, u74, u75, u76, u77, u78, u79, u80, u81, u82, u83, u84], []⟩ w := by
  conv => arg 2; whnf
  refine wp_seq_k fun K hK => ?_
  have HK : Hid _ := hK
  clear hK
  rcases Nat.lt_trichotomy d.size 19 with hs | hs | hs
  · have hs' : (d.size : Int) < 19 := by omega
    have hb : ¬ Big neg d := by
      have h1 := val_lt d d.size hdig.out
      have h2 : 10 ^ d.size ≤ 10 ^ 18 := Nat.pow_le_pow_right (by omega) (by omega)
      rintro (h | h)
      · omega
      · cases neg <;> simp [lim] at h <;> omega
    · go_wp2_with fail
      refine HK.out _ _ ?_
      clear HK K
      refine wp_seq_k fun K hK => ?_
      have HK : Hid _ := hK
      clear hK
      go_wp2_with fail
      refine HK.out _ _ ?_
      clear HK K
      exact p7_11 s d neg _ _ _ _ _ _ _ _ _ _ _ _ _ _ _ _ _ _ _ _ _ _ _ _ _ _ _ _ _ _ _ _ _ _ _ _ _ _ _ _ _ _ _ _ _ _ _ _ _ _ _ _ _ _ _ _ _ _ _ _ _ _ _ _ _ _ _ _ _ _ _ _ _ _ _ _ _ _ _ hd hdig hbad hb
  · have hs' : (d.size : Int) = 19 := by omega
    have hle := lim_le (neg := neg) hdig.out hs
    by_cases hb : Big neg d
    · have hv : decide (val d d.size ≤ lim neg) = false := by
        apply decide_eq_false
        rcases hb with h | h <;> omega
      rw [hv] at hle
      clear hv
      go_wp2_with fail
      refine HK.out _ _ ?_
      clear HK K
      go_wp2_with fail
      go_ret3
      exact ⟨_, rfl, PRes.of_big hbad hb, rfl⟩
    · have hv : decide (val d d.size ≤ lim neg) = true := by
        apply decide_eq_true
        have : ¬ lim neg < val d d.size := fun h => hb (Or.inr h)
        omega
      rw [hv] at hle
      clear hv
      go_wp2_with fail
      refine HK.out _ _ ?_
      clear HK K
      refine wp_seq_k fun K hK => ?_
      have HK : Hid _ := hK
      clear hK
      go_wp2_with fail
      refine HK.out _ _ ?_
      clear HK K
      exact p7_11 s d neg _ _ _ _ _ _ _ _ _ _ _ _ _ _ _ _ _ _ _ _ _ _ _ _ _ _ _ _ _ _ _ _ _ _ _ _ _ _ _ _ _ _ _ _ _ _ _ _ _ _ _ _ _ _ _ _ _ _ _ _ _ _ _ _ _ _ _ _ _ _ _ _ _ _ _ _ _ _ _ hd hdig hbad hb
  · have hs' : ¬ (d.size : Int) < 19 := by omega
    have hs2 : ((d.size : Int) == 19) = false := by rw [beq_eq_false_iff_ne]; omega
    have hb : Big neg d := Or.inl hs
    · go_wp2_with fail
      refine HK.out _ _ ?_
      clear HK K
      go_wp2_with fail
      go_ret3
      exact ⟨_, rfl, PRes.of_big hbad hb, rfl⟩
set_option maxRecDepth 100000 in
theorem p7_6 (s d : ByteArray) (neg : Bool) (v2 v3 v4 v7 : Value) (u11 u12 u13 u14 u15 u16 u17 u18 u19 u20 u21 u22 u23 u24 u25 u26 u27 u28 u29 u30 u31 u32 u33 u34 u35 u36 u37 u38 u39 u40 u41 u42 u43 u44 u45 u46 u47 u48 u49 u50 u51 u52 u53 u54 u55 u56 u57 u58 u59 u60 u61 u62 u63 u64 u65 u66 u67 u68 u69 u70 u71 u72 u73 u74 u75 u76 u77 u78 u79 u80 u81 u82 u83 u84 : Value) (w : World) (hd : (d.size : Int) ≤ 140737488355328) (h0 : 0 < d.size) (hdig : Hid (Dig d d.size)) :
    Code.wp Yba.prog (tl 6 (Yba.f7.body.getD .skip)) (bodyPost Yba.prog Yba.f7 (ReadPost neg d w)) ⟨#[.string s, undef, v2, v3, v4, .bool neg, .string d, v7, undef, undef, undef, u11, u12, u13, u14, u15, u16, u17, u18, u19, u20, u21, u22, u23, u24, u25, u26, u27, u28, u29, u30, u31, u32, u33, u34, u35, u36, u37, u38, u39, u40, u41, u42, u43, u44, u45, u46, u47, u48, u49, u50, u51, u52, u53, u54, u55, u56, u57, u58, u59, u60, u61, u62, u63, u64, u65, u66, u67, u68, u69, u70, u71, u72, u73, u74, u75, u76, u77, u78, u79, u80, u81, u82, u83, u84], []⟩ w := by
  conv => arg 2; whnf
  have c0 : (d[0]'h0).toNat = cc d 0 := cc_lt h0
  refine wp_seq_k fun K hK => ?_
  have HK : Hid _ := hK
  clear hK
  by_cases hz : cc d 0 = 48 ∧ 1 < d.size
  · have hz1 : (d[0]'h0).toNat = 48 := by omega
    have hz2 : (1 : Int) < d.size := by omega
    go_wp2_with fail
    go_ret3
    exact ⟨_, rfl, PRes.of_bad (Or.inr (Or.inl hz)), rfl⟩
  · have hbad : ¬ Bad d := by
      rintro (h | h | h)
      · omega
      · exact hz h
      · exact h hdig.out
    by_cases hq : cc d 0 = 48
    · have hq3 : ¬ (1 : Int) < d.size := by omega
      have hq4 : (d[0]'h0).toNat = 48 := by omega
      go_wp2_with fail
      refine HK.out _ _ ?_
      clear HK K
      refine wp_seq_k fun K hK => ?_
      have HK : Hid _ := hK
      clear hK
      go_wp2_with fail
      refine HK.out _ _ ?_
      clear HK K
      refine wp_seq_k fun K hK => ?_
      have HK : Hid _ := hK
      clear hK
      cases neg
      · go_wp2_with fail
        refine HK.out _ _ ?_
        exact p7_9 s d false _ _ _ _ _ _ _ _ _ _ _ _ _ _ _ _ _ _ _ _ _ _ _ _ _ _ _ _ _ _ _ _ _ _ _ _ _ _ _ _ _ _ _ _ _ _ _ _ _ _ _ _ _ _ _ _ _ _ _ _ _ _ _ _ _ _ _ _ _ _ _ _ _ _ _ _ _ _ _ hd hdig hbad
      · go_wp2_with fail
        refine HK.out _ _ ?_
        exact p7_9 s d true _ _ _ _ _ _ _ _ _ _ _ _ _ _ _ _ _ _ _ _ _ _ _ _ _ _ _ _ _ _ _ _ _ _ _ _ _ _ _ _ _ _ _ _ _ _ _ _ _ _ _ _ _ _ _ _ _ _ _ _ _ _ _ _ _ _ _ _ _ _ _ _ _ _ _ _ _ _ _ hd hdig hbad
    · have hq3 : ((cc d 0 : Int) == 48) = false := by rw [beq_eq_false_iff_ne]; omega
      go_wp2_with fail
      refine HK.out _ _ ?_
      clear HK K
      refine wp_seq_k fun K hK => ?_
      have HK : Hid _ := hK
      clear hK
      go_wp2_with fail
      refine HK.out _ _ ?_
      clear HK K
      refine wp_seq_k fun K hK => ?_
      have HK : Hid _ := hK
      clear hK
      cases neg
      · go_wp2_with fail
        refine HK.out _ _ ?_
        exact p7_9 s d false _ _ _ _ _ _ _ _ _ _ _ _ _ _ _ _ _ _ _ _ _ _ _ _ _ _ _ _ _ _ _ _ _ _ _ _ _ _ _ _ _ _ _ _ _ _ _ _ _ _ _ _ _ _ _ _ _ _ _ _ _ _ _ _ _ _ _ _ _ _ _ _ _ _ _ _ _ _ _ hd hdig hbad
      · go_wp2_with fail
        refine HK.out _ _ ?_
        exact p7_9 s d true _ _ _ _ _ _ _ _ _ _ _ _ _ _ _ _ _ _ _ _ _ _ _ _ _ _ _ _ _ _ _ _ _ _ _ _ _ _ _ _ _ _ _ _ _ _ _ _ _ _ _ _ _ _ _ _ _ _ _ _ _ _ _ _ _ _ _ _ _ _ _ _ _ _ _ _ _ _ _ hd hdig hbad
set_option maxRecDepth 100000 in
theorem p7_4 (s d : ByteArray) (neg : Bool) (u11 u12 u13 u14 u15 u16 u17 u18 u19 u20 u21 u22 u23 u24 u25 u26 u27 u28 u29 u30 u31 u32 u33 u34 u35 u36 u37 u38 u39 u40 u41 u42 u43 u44 u45 u46 u47 u48 u49 u50 u51 u52 u53 u54 u55 u56 u57 u58 u59 u60 u61 u62 u63 u64 u65 u66 u67 u68 u69 u70 u71 u72 u73 u74 u75 u76 u77 u78 u79 u80 u81 u82 u83 u84 : Value) (w : World) (hd : (d.size : Int) ≤ 140737488355328) :
    Code.wp Yba.prog (tl 4 (Yba.f7.body.getD .skip)) (bodyPost Yba.prog Yba.f7 (ReadPost neg d w)) ⟨#[.string s, undef, .int .i64 0, .bool false, .bool false, .bool neg, .string d, undef, undef, undef, undef, u11, u12, u13, u14, u15, u16, u17, u18, u19, u20, u21, u22, u23, u24, u25, u26, u27, u28, u29, u30, u31, u32, u33, u34, u35, u36, u37, u38, u39, u40, u41, u42, u43, u44, u45, u46, u47, u48, u49, u50, u51, u52, u53, u54, u55, u56, u57, u58, u59, u60, u61, u62, u63, u64, u65, u66, u67, u68, u69, u70, u71, u72, u73, u74, u75, u76, u77, u78, u79, u80, u81, u82, u83, u84], []⟩ w := by
  conv => arg 2; whnf
  refine wp_seq_k fun K hK => ?_
  have HK : Hid _ := hK
  clear hK
  by_cases h0 : d.size = 0
  · have h0' : (d.size : Int) = 0 := by omega
    go_wp2_with fail
    go_ret3
    exact ⟨_, rfl, PRes.of_bad (Or.inl h0), rfl⟩
  · have h1' : ((d.size : Int) == 0) = false := by rw [beq_eq_false_iff_ne]; omega
    go_wp2_with fail
    refine HK.out _ _ ?_
    clear HK K
    refine wp_seq_k fun K hK => ?_
    have HK : Hid _ := hK
    clear hK
    go_wp2_with fail
    go_loopw [7] (fun i wr => ∃ k : Nat, k ≤ d.size ∧ i = .int .i64 k ∧ Hid (Dig d k) ∧ wr = w) (fun i _ => d.size - (intOf i).toNat)
    case atStart => exact ⟨0, by omega, rfl, fun i hi => by omega, rfl⟩
    case round =>
      obtain ⟨k, hk, rfl, hdig, rfl⟩ := hrel
      by_cases hlt : k < d.size
      · have ck : (d[k]'hlt).toNat = cc d k := cc_lt hlt
        have cb := cc_le d k
        by_cases hdg : 48 ≤ cc d k ∧ cc d k ≤ 57
        · go_wp2_with fail
          go_roundw
          case rel => exact ⟨k + 1, by omega, by go_num, dig_step hdig.out hdg, trivial⟩
          case measure => simp [intOf]; omega
        · by_cases hdl : (cc d k : Int) < 48
          · go_wp2_with fail
            go_ret3
            exact ⟨_, rfl, PRes.of_bad (Or.inr (Or.inr (fun h => hdg (h k hlt)))), rfl⟩
          · have hdr : (57 : Int) < cc d k := by omega
            go_wp2_with fail
            go_ret3
            exact ⟨_, rfl, PRes.of_bad (Or.inr (Or.inr (fun h => hdg (h k hlt)))), rfl⟩
      · obtain rfl : k = d.size := by omega
        clear hlt hk
        go_wp2_with fail
        refine HK.out _ _ ?_
        exact p7_6 s d neg _ _ _ _ _ _ _ _ _ _ _ _ _ _ _ _ _ _ _ _ _ _ _ _ _ _ _ _ _ _ _ _ _ _ _ _ _ _ _ _ _ _ _ _ _ _ _ _ _ _ _ _ _ _ _ _ _ _ _ _ _ _ _ _ _ _ _ _ _ _ _ _ _ _ _ _ _ _ _ hd (by omega) hdig
set_option maxRecDepth 100000 in
theorem read7 (s : ByteArray) (w : World) (hs : (s.size : Int) ≤ 140737488355328) : Calls Yba.prog 7 #[.string s] w (ReadPost (negOf s) (digOf s) w) := by
  by_cases h0 : 0 < s.size
  · have c0 : (s[0]'h0).toNat = cc s 0 := cc_lt h0
    by_cases hm : cc s 0 = 45
    · have e1 : negOf s = true := decide_eq_true ⟨h0, hm⟩
      have e2 : digOf s = s.extract 1 s.size := if_pos e1
      rw [e1, e2]
      rw [hm] at c0
      have hd : ((s.extract 1 s.size).size : Int) ≤ 140737488355328 := by rw [ByteArray.size_extract]; omega
      go_enter Yba.func7, Yba.ntmps7
      refine wp_seq_k fun K hK => ?_
      have HK : Hid _ := hK
      clear hK
      go_wp2_with fail
      refine HK.out _ _ ?_
      clear HK K
      refine wp_seq_k fun K hK => ?_
      have HK : Hid _ := hK
      clear hK
      go_wp2_with fail
      refine HK.out _ _ ?_
      clear HK K
      refine wp_seq_k fun K hK => ?_
      have HK : Hid _ := hK
      clear hK
      go_wp2_with fail
      refine HK.out _ _ ?_
      clear HK K
      refine wp_seq_k fun K hK => ?_
      have HK : Hid _ := hK
      clear hK
      go_wp2_with fail
      refine HK.out _ _ ?_
      clear HK K
      exact p7_4 s _ true _ _ _ _ _ _ _ _ _ _ _ _ _ _ _ _ _ _ _ _ _ _ _ _ _ _ _ _ _ _ _ _ _ _ _ _ _ _ _ _ _ _ _ _ _ _ _ _ _ _ _ _ _ _ _ _ _ _ _ _ _ _ _ _ _ _ _ _ _ _ _ _ _ _ w hd
    · have e1 : negOf s = false := decide_eq_false (fun h => hm h.2)
      have e2 : digOf s = s := if_neg (by rw [e1]; decide)
      have hm2 : ((cc s 0 : Int) == 45) = false := by rw [beq_eq_false_iff_ne]; omega
      rw [e1, e2]
      go_enter Yba.func7, Yba.ntmps7
      refine wp_seq_k fun K hK => ?_
      have HK : Hid _ := hK
      clear hK
      go_wp2_with fail
      refine HK.out _ _ ?_
      clear HK K
      refine wp_seq_k fun K hK => ?_
      have HK : Hid _ := hK
      clear hK
      go_wp2_with fail
      refine HK.out _ _ ?_
      clear HK K
      refine wp_seq_k fun K hK => ?_
      have HK : Hid _ := hK
      clear hK
      go_wp2_with fail
      refine HK.out _ _ ?_
      clear HK K
      refine wp_seq_k fun K hK => ?_
      have HK : Hid _ := hK
      clear hK
      go_wp2_with fail
      refine HK.out _ _ ?_
      clear HK K
      exact p7_4 s _ false _ _ _ _ _ _ _ _ _ _ _ _ _ _ _ _ _ _ _ _ _ _ _ _ _ _ _ _ _ _ _ _ _ _ _ _ _ _ _ _ _ _ _ _ _ _ _ _ _ _ _ _ _ _ _ _ _ _ _ _ _ _ _ _ _ _ _ _ _ _ _ _ _ _ w hs
  · have e1 : negOf s = false := decide_eq_false (fun h => h0 h.1)
    have e2 : digOf s = s := if_neg (by rw [e1]; decide)
    have h0' : (s.size : Int) = 0 := by omega
    rw [e1, e2]
    go_enter Yba.func7, Yba.ntmps7
    refine wp_seq_k fun K hK => ?_
    have HK : Hid _ := hK
    clear hK
    go_wp2_with fail
    refine HK.out _ _ ?_
    clear HK K
    refine wp_seq_k fun K hK => ?_
    have HK : Hid _ := hK
    clear hK
    go_wp2_with fail
    refine HK.out _ _ ?_
    clear HK K
    refine wp_seq_k fun K hK => ?_
    have HK : Hid _ := hK
    clear hK
    go_wp2_with fail
    refine HK.out _ _ ?_
    clear HK K
    refine wp_seq_k fun K hK => ?_
    have HK : Hid _ := hK
    clear hK
    go_wp2_with fail
    refine HK.out _ _ ?_
    clear HK K
    exact p7_4 s _ false _ _ _ _ _ _ _ _ _ _ _ _ _ _ _ _ _ _ _ _ _ _ _ _ _ _ _ _ _ _ _ _ _ _ _ _ _ _ _ _ _ _ _ _ _ _ _ _ _ _ _ _ _ _ _ _ _ _ _ _ _ _ _ _ _ _ _ _ _ _ _ _ _ _ w hs

end Go.Proofs.Ybulkdrdk.Parts
