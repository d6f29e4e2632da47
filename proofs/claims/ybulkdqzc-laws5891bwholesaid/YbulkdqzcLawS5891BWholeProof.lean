/-
  THE SHELL OF A PROOF OF 'Rows.LawS5891BWholeSaid' ('example.com/sigweave/sigweave/internal/signature.LawS5891BWhole'), WRITTEN BY PROGRAM (proof-skeleton.mjs) off the guide's own print for that function. Not trusted: Lean checks it.
  The walk is filled by hand.
-/
import Derived.Test.YbulkdqzcRows
import Derived.WalkKit
import Derived.ProofKit
import Derived.OpenShut
import Derived.ShutString
namespace Go.Proofs.Ybulkdqzc.lawS5891BWhole
open Go.ChangeShapes Go.WideShapes Go.ChangeAt Go.RowKit
open Go.ChangeMaps (open_string shut_string)
set_option linter.unusedVariables false      -- a walk need not use every 'w<i>' (that an integer argument fits its kind)

theorem own : ownKnob Yba.prog.godebug = none := by kernel_rfl


/-- what 'before' answers, as a plain function -/
def ltB (a b c d : Int) : Bool := if a = c then decide (b < d) else decide (a < c)

theorem ltB_iff {a b c d : Int} : ltB a b c d = true ↔ (a = c ∧ b < d) ∨ a < c := by
  unfold ltB
  by_cases h : a = c
  · simp [h]
  · simp only [h, if_false, decide_eq_true_eq, false_and, false_or]

theorem ltB_asymm {a b c d : Int} (h : ltB a b c d = true) : ltB c d a b = false := by
  cases h' : ltB c d a b with
  | false => rfl
  | true => rw [ltB_iff] at h h'; omega

theorem ltB_tri {a b c d : Int} (h : ¬ ltB a b c d = true) (h' : ¬ ltB c d a b = true) : a = c ∧ b = d := by
  rw [ltB_iff] at h h'; omega

theorem before_any (a0 a1 a2 a3 : Int) (w : World) :
    Calls Yba.prog 6 #[.agg #[.int .i64 a0, .int .i64 a1], .agg #[.int .i64 a2, .int .i64 a3]] w fun e w' => e = .returned (.bool (ltB a0 a1 a2 a3)) ∧ w' = (w.alloc (.cells #[.int .i64 a0, .int .i64 a1] 23)).alloc (.cells #[.int .i64 a2, .int .i64 a3] 23) := by
  by_cases h : a0 = a2
  · subst h
    have e1 : ltB a0 a1 a0 a3 = decide (a1 < a3) := by simp [ltB]
    rw [e1]
    go_enter Yba.func6, Yba.ntmps6
    go_wp2
    go_ret
    exact ⟨rfl, rfl⟩
  · have e1 : ltB a0 a1 a2 a3 = decide (a0 < a2) := by simp [ltB, h]
    have h' : (a0 != a2) = true := by simpa using h
    rw [e1]
    clear e1 h
    go_enter Yba.func6, Yba.ntmps6
    go_wp2
    go_ret
    exact ⟨rfl, rfl⟩


theorem grown4 (w : World) (c0 c1 c2 c3 : Array Value) :
    Grown w ((((w.alloc (.cells c0 23)).alloc (.cells c1 23)).alloc (.cells c2 23)).alloc (.cells c3 23)) :=
  ((((Grown.refl w).alloc c0 23).alloc c1 23).alloc c2 23).alloc c3 23


theorem model_any (a0 a1 a2 a3 : Int) (w : World) :
    Calls Yba.prog 7 #[.int .i64 a0, .int .i64 a1, .int .i64 a2, .int .i64 a3] w fun e w' => e = .returned (.bool (ltB a0 a1 a2 a3)) ∧ w' = w := by
  rcases Int.lt_trichotomy a0 a2 with h | h | h
  · have e1 : ltB a0 a1 a2 a3 = true := ltB_iff.2 (Or.inr h)
    rw [e1]
    clear e1
    go_enter Yba.func7, Yba.ntmps7
    go_wp2
    go_ret
    exact ⟨rfl, rfl⟩
  · subst h
    have e1 : ltB a0 a1 a0 a3 = decide (a1 < a3) := by simp [ltB]
    rw [e1]
    clear e1
    rcases Int.lt_trichotomy a1 a3 with h | h | h
    · rw [decide_eq_true h]
      go_enter Yba.func7, Yba.ntmps7
      go_wp2
      go_ret
      exact ⟨rfl, rfl⟩
    · subst h
      rw [decide_eq_false (Int.lt_irrefl _)]
      go_enter Yba.func7, Yba.ntmps7
      go_wp2
      go_ret
      exact ⟨rfl, rfl⟩
    · rw [decide_eq_false (by omega)]
      go_enter Yba.func7, Yba.ntmps7
      go_wp2
      go_ret
      exact ⟨rfl, rfl⟩
  · have e1 : ltB a0 a1 a2 a3 = false := ltB_asymm (ltB_iff.2 (Or.inr h))
    rw [e1]
    clear e1
    go_enter Yba.func7, Yba.ntmps7
    go_wp2
    go_ret
    exact ⟨rfl, rfl⟩

/-! ### STEP 1: THE WALK: the Go text returns true. 'Grown w w'': the world has at most new blocks (Derived/RowKit3.lean). Part the cases AHEAD of 'go_enter' where a test parts the walk; take each callee by a contract of your own. -/
theorem walk (a0 : Int) (a1 : Int) (a2 : Int) (a3 : Int) (w0 : (Lit.int .i64 a0).wf = true) (w1 : (Lit.int .i64 a1).wf = true) (w2 : (Lit.int .i64 a2).wf = true) (w3 : (Lit.int .i64 a3).wf = true) (w : World) :
    Calls Yba.prog 3 #[.int .i64 a0, .int .i64 a1, .int .i64 a2, .int .i64 a3] w fun e w' => e = .returned (.bool true) ∧ Grown w w' := by
  obtain ⟨t, ht⟩ : ∃ t, ltB a0 a1 a2 a3 = t := ⟨_, rfl⟩
  go_enter Yba.func3, Yba.ntmps3
  go_wp2_with (first | (go_at_call 6; refine (before_any _ _ _ _ _).mono ?_; rintro e w' ⟨rfl, rfl⟩) | (go_at_call 7; refine (model_any _ _ _ _ _).mono ?_; rintro e w' ⟨rfl, rfl⟩))
  all_goals (go_ret; exact ⟨by simp, grown4 _ _ _ _ _⟩)

/-! ### THE ROW's STEP: WRITTEN OUT: LEAVE IT -/
set_option maxRecDepth 100000 in
theorem lifted (os : Os) (started : os.Started) (H : Type) (enc : TypeId × Value → H) :
    ReturnsInHanded {} Yba.checked os 3 .any (Rows.lawS5891BWholeSpec.pre6 enc Yba.prog Yba.f3 Rows.lawS5891BWholeRow.domain false) (Rows.lawS5891BWholeSpec.post enc Yba.prog Yba.f3 false true false false) := by
  refine returnsInHanded_of_change (C := Yba.checked) own started (by kernel_rfl) Yba.func3
    (ChangeSpec.witness6 (enc := enc) (C := Yba.checked) false ⟨#[], #[.int .i64 0, .int .i64 0, .int .i64 0, .int .i64 0], []⟩ 8 (by kernel_rfl) (by kernel_rfl) (by kernel_rfl) (by kernel_rfl)) ?_
  intro W base args ds gs before hval0 hW hcnd _
  have hval : ∀ (j : Nat) t v, Yba.f3.params[j]? = some t → args[j]? = some v → Value.okWide Yba.prog W .any base t v := hval0
  have hW' := hW
  obtain ⟨p, q, hA0, hV, rfl, hfz, hnd⟩ := hW
  have hA : DataW.TrodAll enc Yba.prog W 0 (fun _ => true) true Yba.f3.params.toList args.toList ds p := hA0
  rw [Yba.params3] at hA hval
  obtain ⟨v0, vs0, d0, ds0, p0, q0, hargs, rfl, rfl, h0, r0⟩ := trodAll_cons hA
  obtain ⟨v1, vs1, d1, ds1, p1, q1, rfl, rfl, rfl, h1, r1⟩ := trodAll_cons r0
  obtain ⟨v2, vs2, d2, ds2, p2, q2, rfl, rfl, rfl, h2, r2⟩ := trodAll_cons r1
  obtain ⟨v3, vs3, d3, ds3, p3, q3, rfl, rfl, rfl, h3, r3⟩ := trodAll_cons r2
  obtain ⟨rfl, rfl, rfl⟩ := trodAll_nil r3
  obtain rfl : args = #[v0, v1, v2, v3] := by cases args; simp_all
  obtain ⟨rfl, rfl⟩ := trodVars_none hV
  obtain ⟨a0, rfl, rfl, rfl, w0⟩ := open_int Yba.underlying2 (hval 0 2 v0 rfl rfl) h0
  obtain ⟨a1, rfl, rfl, rfl, w1⟩ := open_int Yba.underlying3 (hval 1 3 v1 rfl rfl) h1
  obtain ⟨a2, rfl, rfl, rfl, w2⟩ := open_int Yba.underlying2 (hval 2 2 v2 rfl rfl) h2
  obtain ⟨a3, rfl, rfl, rfl, w3⟩ := open_int Yba.underlying3 (hval 3 3 v3 rfl rfl) h3
  clear hA0 hval0
  simp only [List.append_nil] at hW'
  refine (walk a0 a1 a2 a3 w0 w1 w2 w3 W).mono fun e W' ⟨he, hg⟩ => ?_
  subst he
  exact ⟨_, rfl, post_of_same (pa := []) (pv := []) hW' (fun _ _ _ => (trodAll_cons_mk (shut_bool Yba.underlying4 _) trodAll_mk0)) (fun sp _ => (trodAll_cons_mk (shut_int Yba.underlying2 w0) (trodAll_cons_mk (shut_int Yba.underlying3 w1) (trodAll_cons_mk (shut_int Yba.underlying2 w2) (trodAll_cons_mk (shut_int Yba.underlying3 w3) trodAll_mk0))))) (fun _ _ => rfl) rfl
    (hg.frame _) hg.2.1 (ok_one (by kernel_rfl) rfl (okWide_bool_mk Yba.underlying4 _))⟩

theorem over : Rows.lawS5891BWholeRow.holds Yba.pinned (OpenSpec.ofChange Rows.lawS5891BWholeSpec) :=
  OpenClaim.holds_of_wide 3 Yba.f3 rfl rfl rfl rfl rfl rfl rfl ⟨rfl, rfl, rfl, rfl, rfl⟩ rfl rfl rfl rfl rfl (by kernel_rfl) Yba.func3 (by kernel_rfl)
    (of_decide_eq_true (by kernel_rfl)) (by unfold Func.isWrapper; first | (rw [if_pos (by decide +kernel)]; kernel_rfl) | (rw [if_neg (by decide +kernel)]; exact ⟨rfl, rfl⟩))
    (fun os started H enc _ => lifted os started H enc)

/-- ████ THE STATEMENT ████ -/
theorem proved : Rows.LawS5891BWholeSaid :=
  over
end Go.Proofs.Ybulkdqzc.lawS5891BWhole
