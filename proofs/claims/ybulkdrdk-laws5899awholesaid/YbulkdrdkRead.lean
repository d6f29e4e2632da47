/-
  parseInteger by its contract
-/
import Derived.Test.YbulkdrdkEnv
namespace Go.Proofs.Ybulkdrdk.Parts
open Go.ChangeShapes Go.WideShapes Go.ChangeAt Go.RowKit
set_option linter.unusedVariables false

theorem neg_back {n : Nat} (h : (n : Int) ≤ 9223372036854775808) : wrap64 (-wrap64 (n : Int)) = sgn true n := by
  unfold wrap64 sgn
  simp
  omega

theorem val_u {d : ByteArray} (hbad : ¬ Bad d) (h : ¬ 19 < d.size) : uv d d.size = (val d d.size : Int) := by
  have hdig : Dig d d.size := Classical.byContradiction fun h => hbad (Or.inr (Or.inr h))
  have h1 := val_lt d d.size hdig
  have h2 : 10 ^ d.size ≤ 10 ^ 19 := Nat.pow_le_pow_right (by omega) (by omega)
  unfold uv
  omega

theorem big_u {neg : Bool} {d : ByteArray} (hbad : ¬ Bad d) (h : Big neg d) : (19 : Int) < d.size ∨ ¬ (19 : Int) < d.size ∧ (lim neg : Int) < uv d d.size := by
  by_cases h1 : 19 < d.size
  · left; omega
  · right
    rw [val_u hbad h1]
    rcases h with h | h
    · exact absurd h h1
    · exact ⟨by omega, by omega⟩

theorem fit_u {neg : Bool} {d : ByteArray} (hbad : ¬ Bad d) (h : ¬ Big neg d) : ¬ (19 : Int) < d.size ∧ ¬ (lim neg : Int) < (val d d.size : Int) ∧ uv d d.size = (val d d.size : Int) := by
  have h1 : ¬ 19 < d.size := fun e => h (Or.inl e)
  have h2 : ¬ lim neg < val d d.size := fun e => h (Or.inr e)
  exact ⟨by omega, by omega, val_u hbad h1⟩

set_option maxRecDepth 100000 in
theorem p17_7 (s d : ByteArray) (neg : Bool) (v2 v3 v4 v8 v9 : Value) (u11 u12 u13 u14 u15 u16 u17 u18 u19 u20 u21 u22 u23 u24 u25 u26 u27 u28 u29 u30 u31 u32 u33 u34 u35 u36 u37 u38 u39 u40 u41 u42 u43 u44 u45 u46 u47 u48 u49 u50 u51 u52 u53 u54 u55 u56 u57 u58 u59 u60 u61 u62 u63 u64 u65 u66 u67 u68 u69 u70 u71 : Value) (w : World) (hd : (d.size : Int) ≤ 140737488355328) (hbad : ¬ Bad d) :
    Code.wp Yba.prog (tl 7 (Yba.f17.body.getD .skip)) (bodyPost Yba.prog Yba.f17 (ReadPost neg d w)) ⟨#[.string s, undef, v2, v3, v4, .bool neg, .string d, .int .u64 (uv d d.size), v8, v9, undef, u11, u12, u13, u14, u15, u16, u17, u18, u19, u20, u21, u22, u23, u24, u25, u26, u27, u28, u29, u30, u31, u32, u33, u34, u35, u36, u37, u38, u39, u40, u41, u42, u43, u44, u45, u46, u47, u48, u49, u50, u51, u52, u53, u54, u55, u56, u57, u58, u59, u60, u61, u62, u63, u64, u65, u66, u67, u68, u69, u70, u71], []⟩ w := by
  have bu := uv_bd d d.size
  conv => arg 2; whnf
  refine wp_seq_k fun K hK => ?_
  have HK : Hid _ := hK
  clear hK
  go_wp2_with fail
  refine HK.out _ _ ?_
  clear HK K
  refine wp_seq_k fun K hK => ?_
  have HK : Hid _ := hK
  clear hK
  cases neg
  · go_wp2_with fail
    refine HK.out _ _ ?_
    clear HK K
    by_cases hb : Big false d
    · have hb2 : (19 : Int) < d.size ∨ ¬ (19 : Int) < d.size ∧ (9223372036854775807 : Int) < uv d d.size := big_u hbad hb
      rcases hb2 with hb2 | ⟨hb2, hb3⟩
      · go_wp2_with fail
        go_ret3
        exact ⟨_, rfl, PRes.of_big hbad hb, rfl⟩
      · go_wp2_with fail
        go_ret3
        exact ⟨_, rfl, PRes.of_big hbad hb, rfl⟩
    · obtain ⟨hb2, hb3, hb4⟩ := fit_u hbad hb
      rw [hb4] at bu ⊢
      clear hb4
      have hb5 : ¬ (9223372036854775807 : Int) < (val d d.size : Int) := hb3
      go_wp2_with fail
      go_ret3
      exact ⟨_, rfl, PRes.of_fit hbad hb rfl, rfl⟩
  · go_wp2_with fail
    refine HK.out _ _ ?_
    clear HK K
    by_cases hb : Big true d
    · have hb2 : (19 : Int) < d.size ∨ ¬ (19 : Int) < d.size ∧ (9223372036854775808 : Int) < uv d d.size := big_u hbad hb
      rcases hb2 with hb2 | ⟨hb2, hb3⟩
      · go_wp2_with fail
        go_ret3
        exact ⟨_, rfl, PRes.of_big hbad hb, rfl⟩
      · go_wp2_with fail
        go_ret3
        exact ⟨_, rfl, PRes.of_big hbad hb, rfl⟩
    · obtain ⟨hb2, hb3, hb4⟩ := fit_u hbad hb
      rw [hb4] at bu ⊢
      clear hb4
      have hb5 : ¬ (9223372036854775808 : Int) < (val d d.size : Int) := hb3
      go_wp2_with fail
      go_ret3
      exact ⟨_, rfl, PRes.of_fit hbad hb (neg_back hb5), rfl⟩
set_option maxRecDepth 100000 in
theorem p17_5 (s d : ByteArray) (neg : Bool) (u11 u12 u13 u14 u15 u16 u17 u18 u19 u20 u21 u22 u23 u24 u25 u26 u27 u28 u29 u30 u31 u32 u33 u34 u35 u36 u37 u38 u39 u40 u41 u42 u43 u44 u45 u46 u47 u48 u49 u50 u51 u52 u53 u54 u55 u56 u57 u58 u59 u60 u61 u62 u63 u64 u65 u66 u67 u68 u69 u70 u71 : Value) (w : World) (hd : (d.size : Int) ≤ 140737488355328) (h0 : ¬ d.size = 0) (hz : ¬ (cc d 0 = 48 ∧ 1 < d.size)) :
    Code.wp Yba.prog (tl 5 (Yba.f17.body.getD .skip)) (bodyPost Yba.prog Yba.f17 (ReadPost neg d w)) ⟨#[.string s, undef, .int .i64 0, .bool false, .bool false, .bool neg, .string d, undef, undef, undef, undef, u11, u12, u13, u14, u15, u16, u17, u18, u19, u20, u21, u22, u23, u24, u25, u26, u27, u28, u29, u30, u31, u32, u33, u34, u35, u36, u37, u38, u39, u40, u41, u42, u43, u44, u45, u46, u47, u48, u49, u50, u51, u52, u53, u54, u55, u56, u57, u58, u59, u60, u61, u62, u63, u64, u65, u66, u67, u68, u69, u70, u71], []⟩ w := by
  conv => arg 2; whnf
  refine wp_seq_k fun K hK => ?_
  have HK : Hid _ := hK
  clear hK
  go_wp2_with fail
  refine HK.out _ _ ?_
  clear HK K
  refine wp_seq_k fun K hK => ?_
  have HK : Hid _ := hK
  clear hK
  go_wp2_with fail
  go_loopw [7, 8] (fun u i wr => ∃ k : Nat, k ≤ d.size ∧ i = .int .i64 k ∧ u = .int .u64 (uv d k) ∧ Hid (Dig d k) ∧ wr = w) (fun _ i _ => d.size - (intOf i).toNat)
  case atStart => exact ⟨0, by omega, rfl, rfl, fun i hi => by omega, rfl⟩
  case round =>
    obtain ⟨k, hk, rfl, rfl, hdig, rfl⟩ := hrel
    have bu := uv_bd d k
    by_cases hlt : k < d.size
    · have ck : (d[k]'hlt).toNat = cc d k := cc_lt hlt
      have cb := cc_le d k
      by_cases hdg : 48 ≤ cc d k ∧ cc d k ≤ 57
      · go_wp2_with fail
        go_roundw
        case rel => exact ⟨k + 1, by omega, by go_num, congrArg (Value.int .u64) (uv_step hdg), dig_step hdig.out hdg, trivial⟩
        case measure => simp [intOf]; omega
      · have hgt := nodig hdg
        go_wp2_with fail
        go_ret3
        exact ⟨_, rfl, PRes.of_bad (Or.inr (Or.inr (fun h => hdg (h k hlt)))), rfl⟩
    · obtain rfl : k = d.size := by omega
      have hbad : ¬ Bad d := by
        rintro (h | h | h)
        · exact h0 h
        · exact hz h
        · exact h hdig.out
      clear hlt hk hdig
      go_wp2_with fail
      refine HK.out _ _ ?_
      exact p17_7 s d neg _ _ _ _ _ _ _ _ _ _ _ _ _ _ _ _ _ _ _ _ _ _ _ _ _ _ _ _ _ _ _ _ _ _ _ _ _ _ _ _ _ _ _ _ _ _ _ _ _ _ _ _ _ _ _ _ _ _ _ _ _ _ _ _ _ _ _ hd hbad
set_option maxRecDepth 100000 in
theorem p17_4 (s d : ByteArray) (neg : Bool) (u11 u12 u13 u14 u15 u16 u17 u18 u19 u20 u21 u22 u23 u24 u25 u26 u27 u28 u29 u30 u31 u32 u33 u34 u35 u36 u37 u38 u39 u40 u41 u42 u43 u44 u45 u46 u47 u48 u49 u50 u51 u52 u53 u54 u55 u56 u57 u58 u59 u60 u61 u62 u63 u64 u65 u66 u67 u68 u69 u70 u71 : Value) (w : World) (hd : (d.size : Int) ≤ 140737488355328) :
    Code.wp Yba.prog (tl 4 (Yba.f17.body.getD .skip)) (bodyPost Yba.prog Yba.f17 (ReadPost neg d w)) ⟨#[.string s, undef, .int .i64 0, .bool false, .bool false, .bool neg, .string d, undef, undef, undef, undef, u11, u12, u13, u14, u15, u16, u17, u18, u19, u20, u21, u22, u23, u24, u25, u26, u27, u28, u29, u30, u31, u32, u33, u34, u35, u36, u37, u38, u39, u40, u41, u42, u43, u44, u45, u46, u47, u48, u49, u50, u51, u52, u53, u54, u55, u56, u57, u58, u59, u60, u61, u62, u63, u64, u65, u66, u67, u68, u69, u70, u71], []⟩ w := by
  conv => arg 2; whnf
  refine wp_seq_k fun K hK => ?_
  have HK : Hid _ := hK
  clear hK
  by_cases h0 : d.size = 0
  · have h0' : (d.size : Int) = 0 := by omega
    go_wp2_with fail
    go_ret3
    exact ⟨_, rfl, PRes.of_bad (Or.inl h0), rfl⟩
  · have h1 : 0 < d.size := by omega
    have h1' : ((d.size : Int) == 0) = false := by rw [beq_eq_false_iff_ne]; omega
    have c0 : (d[0]'h1).toNat = cc d 0 := cc_lt h1
    by_cases hz : cc d 0 = 48 ∧ 1 < d.size
    · have hz1 : (d[0]'h1).toNat = 48 := by omega
      have hz2 : (1 : Int) < d.size := by omega
      go_wp2_with fail
      go_ret3
      exact ⟨_, rfl, PRes.of_bad (Or.inr (Or.inl hz)), rfl⟩
    · by_cases hq : (d[0]'h1).toNat = 48
      · have hq3 : ¬ (1 : Int) < d.size := by omega
        go_wp2_with fail
        refine HK.out _ _ ?_
        exact p17_5 s d neg _ _ _ _ _ _ _ _ _ _ _ _ _ _ _ _ _ _ _ _ _ _ _ _ _ _ _ _ _ _ _ _ _ _ _ _ _ _ _ _ _ _ _ _ _ _ _ _ _ _ _ _ _ _ _ _ _ _ _ _ _ w hd h0 hz
      · have hq3 : ¬ ((d[0]'h1).toNat : Int) = 48 := by omega
        go_wp2_with fail
        refine HK.out _ _ ?_
        exact p17_5 s d neg _ _ _ _ _ _ _ _ _ _ _ _ _ _ _ _ _ _ _ _ _ _ _ _ _ _ _ _ _ _ _ _ _ _ _ _ _ _ _ _ _ _ _ _ _ _ _ _ _ _ _ _ _ _ _ _ _ _ _ _ _ w hd h0 hz
set_option maxRecDepth 100000 in
theorem read17 (s : ByteArray) (w : World) (hs : (s.size : Int) ≤ 140737488355328) : Calls Yba.prog 17 #[.string s] w (ReadPost (negOf s) (digOf s) w) := by
  by_cases h0 : 0 < s.size
  · have c0 : (s[0]'h0).toNat = cc s 0 := cc_lt h0
    by_cases hm : cc s 0 = 45
    · have e1 : negOf s = true := decide_eq_true ⟨h0, hm⟩
      have e2 : digOf s = s.extract 1 s.size := if_pos e1
      rw [e1, e2]
      rw [hm] at c0
      have hd : ((s.extract 1 s.size).size : Int) ≤ 140737488355328 := by rw [ByteArray.size_extract]; omega
      go_enter Yba.func17, Yba.ntmps17
      refine wp_seq_k fun K hK => ?_
      have HK : Hid _ := hK
      clear hK
      go_wp2_with fail
      refine HK.out _ _ ?_
      clear HK K
      refine wp_seq_k fun K hK => ?_
      have HK : Hid _ := hK
      clear hK
      go_wp2_with fail
      refine HK.out _ _ ?_
      clear HK K
      refine wp_seq_k fun K hK => ?_
      have HK : Hid _ := hK
      clear hK
      go_wp2_with fail
      refine HK.out _ _ ?_
      clear HK K
      refine wp_seq_k fun K hK => ?_
      have HK : Hid _ := hK
      clear hK
      go_wp2_with fail
      refine HK.out _ _ ?_
      clear HK K
      exact p17_4 s _ true _ _ _ _ _ _ _ _ _ _ _ _ _ _ _ _ _ _ _ _ _ _ _ _ _ _ _ _ _ _ _ _ _ _ _ _ _ _ _ _ _ _ _ _ _ _ _ _ _ _ _ _ _ _ _ _ _ _ _ _ _ w hd
    · have e1 : negOf s = false := decide_eq_false (fun h => hm h.2)
      have e2 : digOf s = s := if_neg (by rw [e1]; decide)
      have hm2 : ((cc s 0 : Int) == 45) = false := by rw [beq_eq_false_iff_ne]; omega
      rw [e1, e2]
      go_enter Yba.func17, Yba.ntmps17
      refine wp_seq_k fun K hK => ?_
      have HK : Hid _ := hK
      clear hK
      go_wp2_with fail
      refine HK.out _ _ ?_
      clear HK K
      refine wp_seq_k fun K hK => ?_
      have HK : Hid _ := hK
      clear hK
      go_wp2_with fail
      refine HK.out _ _ ?_
      clear HK K
      refine wp_seq_k fun K hK => ?_
      have HK : Hid _ := hK
      clear hK
      go_wp2_with fail
      refine HK.out _ _ ?_
      clear HK K
      refine wp_seq_k fun K hK => ?_
      have HK : Hid _ := hK
      clear hK
      go_wp2_with fail
      refine HK.out _ _ ?_
      clear HK K
      exact p17_4 s _ false _ _ _ _ _ _ _ _ _ _ _ _ _ _ _ _ _ _ _ _ _ _ _ _ _ _ _ _ _ _ _ _ _ _ _ _ _ _ _ _ _ _ _ _ _ _ _ _ _ _ _ _ _ _ _ _ _ _ _ _ _ w hs
  · have e1 : negOf s = false := decide_eq_false (fun h => h0 h.1)
    have e2 : digOf s = s := if_neg (by rw [e1]; decide)
    have h0' : (s.size : Int) = 0 := by omega
    rw [e1, e2]
    go_enter Yba.func17, Yba.ntmps17
    refine wp_seq_k fun K hK => ?_
    have HK : Hid _ := hK
    clear hK
    go_wp2_with fail
    refine HK.out _ _ ?_
    clear HK K
    refine wp_seq_k fun K hK => ?_
    have HK : Hid _ := hK
    clear hK
    go_wp2_with fail
    refine HK.out _ _ ?_
    clear HK K
    refine wp_seq_k fun K hK => ?_
    have HK : Hid _ := hK
    clear hK
    go_wp2_with fail
    refine HK.out _ _ ?_
    clear HK K
    refine wp_seq_k fun K hK => ?_
    have HK : Hid _ := hK
    clear hK
    go_wp2_with fail
    refine HK.out _ _ ?_
    clear HK K
    exact p17_4 s _ false _ _ _ _ _ _ _ _ _ _ _ _ _ _ _ _ _ _ _ _ _ _ _ _ _ _ _ _ _ _ _ _ _ _ _ _ _ _ _ _ _ _ _ _ _ _ _ _ _ _ _ _ _ _ _ _ _ _ _ _ _ w hs

end Go.Proofs.Ybulkdrdk.Parts
