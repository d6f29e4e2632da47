/-
  THE ROW OF 'LawS5895CWhole' AND ITS TIED CARD. After the guide's worked example 'Mapy' (MapyProofs, MapyCard), turned to this program.
-/
import Derived.Test.YbulkdrbgDoorRows
import Derived.Test.YbulkdrbgDoorTie
import Derived.Test.YbulkdrbgDoorCards
import Derived.Test.YbulkdrbgDoorSteps
import Derived.ProofKit
import Derived.LaidMore
import Derived.OpenShut
import Derived.ShutString
import Derived.Stop.Joined
import Derived.Deep.Modes
import Derived.SevenTiedAt
namespace Go.Proofs.YbulkdrbgDoor.Law
open Go.ChangeShapes Go.WideShapes Go.ChangeAt Go.RowKit
open Go.ChangeMaps (open_string shut_string)
set_option linter.unusedVariables false

abbrev vn : String := Rows.lawS5895CWholeSpec.vars.headD ""
abbrev laid1 : List (String × DataW Unit) := [(vn, Rows.laid_example_com_tiers_of_config_tiers_of_config_blank)]

theorem own : ownKnob Ybad.prog.godebug = none := by kernel_rfl
theorem gBlank : Ybad.prog.globalNamed vn = some 0 := by kernel_rfl
theorem tBlank : (Ybad.prog.globals[0]?).map (·.type) = some 27 := by kernel_rfl
theorem cells4 : Ybad.prog.cellsOf 4 = 1 := by kernel_rfl
theorem laidOut : laidOutB Ybad.prog = true := by kernel_rfl

theorem door_met (os : Os) (args : Array Value) : laidMetH Ybad.prog laid1 ((World.doorLaid Ybad.prog 169 os).forCall (fun _ _ => 0) ⟨#[], args, []⟩).memory :=
  laidMetH_of_parts3 (fuel := 8) (laidMet_of_run' 8 (by kernel_rfl) (by kernel_rfl)) (by kernel_rfl) (by kernel_rfl)

/-- the listed datum, entry by entry -/
def boolAt (d : DataW Unit) (c : Nat) : Option Bool :=
  match d with
  | .agg l => match l[c]? with
    | some (.lit (.bool b)) => some b
    | _ => Option.none
  | _ => Option.none
theorem datum_at : ∀ c, c < 256 → boolAt Rows.laid_example_com_tiers_of_config_tiers_of_config_blank c = some (Steps.isB (c : Int)) := by
  decide +kernel

theorem of_laid {W : World} (h : laidMetH Ybad.prog laid1 W) : ∀ c : Nat, c < 256 → W.cell? ⟨0, c, none⟩ = some (.bool (Steps.isB (c : Int))) := by
  rw [MakeChecks.laidMetH_plain _ _ _ (by kernel_rfl)] at h
  obtain ⟨ps, ⟨g0, t0, cs0, f0, p0, q0, hg0, ht0, hv0, hd0, _, _⟩, _, _⟩ := h
  obtain rfl := Option.some.inj (gBlank.symm.trans hg0)
  obtain rfl := Option.some.inj (tBlank.symm.trans ht0)
  obtain ⟨xs, m, rfl, hx, hlen, hn, hel⟩ := DataW.trod_array Ybad.underlying27 hd0
  intro c hc
  have h1 := hel c hc
  rw [cells4, Nat.mul_one] at h1
  have hxc : ∃ x, xs[c]? = some x := ⟨xs[c]'(by omega), List.getElem?_eq_getElem (by omega)⟩
  obtain ⟨x, hxc⟩ := hxc
  rw [hxc] at h1
  obtain ⟨b, e1, e2⟩ := DataW.trod_bool Ybad.underlying4 h1
  have h2 := datum_at c hc
  simp only [Prod.mk.injEq] at hx
  rw [hx.1] at h2
  simp only [boolAt, List.getElem?_map, hxc, Option.map_some, e2] at h2
  have hb : b = Steps.isB (c : Int) := by simpa using h2
  subst hb
  have h3 : cs0[c]? = some (.bool (Steps.isB (c : Int))) := by
    have h4 := congrArg (fun l => l[0]?) e1
    rw [List.getElem?_take_of_lt (by omega), List.getElem?_drop] at h4
    simpa using h4
  rw [World.var?_cell hg0 hv0 c]
  exact h3

set_option maxRecDepth 100000 in
theorem lifted (os : Os) (started : os.Started) (H : Type) (enc : TypeId × Value → H) :
    ReturnsInHanded {} Ybad.checked os 3 .any (fun w args => (Rows.lawS5895CWholeSpec.pre enc Ybad.prog Ybad.f3 [] false w args ∧ laidMetH Ybad.prog laid1 w) ∧ sizedMet enc Ybad.prog Ybad.f3 (OpenSpec.ofChange Rows.lawS5895CWholeSpec) false w args)
      (Rows.lawS5895CWholeSpec.post enc Ybad.prog Ybad.f3 false true false false) := by
  refine returnsInHanded_of_change_and (C := Ybad.checked) (X := fun w _ => laidMetH Ybad.prog laid1 w) (fun _ _ _ hh h => h.of_heap hh) own started (by kernel_rfl) Ybad.func3
    (ChangeSpec.witness_shaped (enc := enc) (C := Ybad.checked) (os := os) (X := fun w _ => laidMetH Ybad.prog laid1 w) false (World.doorLaid Ybad.prog 169 os) #[.int .u8 0, .bool false, .string ⟨#[]⟩] 8 rfl (World.shaped_of_RefB (by kernel_rfl) (by kernel_rfl)) (by kernel_rfl) (by kernel_rfl) (by kernel_rfl) (door_met os _)) ?_
  intro W base args ds gs before hval0 hW _ _ hL _
  have hval : ∀ (j : Nat) t v, Ybad.f3.params[j]? = some t → args[j]? = some v → Value.okWide Ybad.prog W .any base t v := hval0
  have hW' := hW
  obtain ⟨p, q, hA0, hV0, rfl, hfz, hnd⟩ := hW
  have hA : DataW.TrodAll enc Ybad.prog W 0 (fun _ => true) true Ybad.f3.params.toList args.toList ds p := hA0
  have hV : DataW.TrodVars enc Ybad.prog W (fun _ => true) [vn] gs q := hV0
  rw [Ybad.params3] at hA hval
  obtain ⟨v0, v1, v2, d0, d1, d2, p0, p1, p2, rfl, rfl, rfl, h0, h1, h2⟩ := trodAll_three hA
  obtain ⟨g, t, cs, fuel, d, pv, rfl, hg, ht, hvar, hd, rfl⟩ := trodVars_one hV
  obtain rfl := Option.some.inj (gBlank.symm.trans hg)
  obtain rfl := Option.some.inj (tBlank.symm.trans ht)
  obtain ⟨k, rfl, rfl, rfl, wk⟩ := open_int Ybad.underlying5 (hval 0 5 v0 rfl rfl) h0
  obtain ⟨b, rfl, rfl, rfl⟩ := open_bool Ybad.underlying4 (hval 1 4 v1 rfl rfl) h1
  obtain ⟨s, rfl, rfl, rfl, ws⟩ := open_string Ybad.underlying9 (hval 2 9 v2 rfl rfl) h2
  have hk := bounds_u8 wk
  have hs : s.size ≤ 9223372036854775807 := by unfold maxLen at ws; omega
  have htab := of_laid hL
  clear hA0 hval0 hV0
  simp only [List.append_nil, List.nil_append] at hW'
  refine (Steps.law_any k b s W hk.1 (by omega) hs htab).mono fun e W' ⟨he, hw⟩ => ?_
  subst he
  subst hw
  refine ⟨_, rfl, post_of_same (pa := []) (pv := MemPlace.row ⟨0, 0, Option.none⟩ cs.size ++ pv) hW' (fun _ _ _ => trodAll_mk1 (shut_bool Ybad.underlying4 _)) (fun sp _ => trodAll_mk3 (shut_int Ybad.underlying5 wk) (shut_bool Ybad.underlying4 b) (shut_string Ybad.underlying9 ws))
    (fun sp _ => trodVars_mk1 hg ht hvar (trod_any laidOut (by kernel_rfl) (of_decide_eq_true (by kernel_rfl)) (by kernel_rfl) (by kernel_rfl) hd (fun p _ => ?_))) (by simp) (World.keptBut_refl _ _) (fun _ => rfl) (ok_one (by kernel_rfl) rfl (okWide_bool_mk Ybad.underlying4 _))⟩
  cases p <;> rfl

theorem over : Rows.LawS5895CWholeSaid :=
  OpenClaim.holds_of_wide 3 Ybad.f3 rfl rfl rfl rfl rfl rfl rfl ⟨rfl, rfl, rfl, rfl, rfl⟩ rfl rfl rfl rfl rfl (by kernel_rfl) Ybad.func3 (by kernel_rfl)
    (of_decide_eq_true (by kernel_rfl)) (by unfold Func.isWrapper; first | (rw [if_pos (by decide +kernel)]; kernel_rfl) | (rw [if_neg (by decide +kernel)]; exact ⟨rfl, rfl⟩))
    (fun os started H enc _ => lifted os started H enc)

/-- THE STATEMENT: the tied card -/
theorem proved : Rows.LawS5895CWholeCardSaid :=
  Claim7.holds_tied_plain_at .later [] [.called] true (true, "884c8dcfe235c27dc97d07e00416a3caee68342f759b5c30fef62bfe62d31fbd") false
    over (fun _ h => by cases h) (by kernel_rfl) (fun _ h => by cases h) lawS5895CWhole_row_tie rfl ⟨rfl, rfl⟩ (by kernel_rfl) rfl
    (fun f fn hf hfn => by
      obtain rfl : f = 3 := Option.some.inj ((show Ybad.prog.funcNamed Rows.lawS5895CWholeRow.func = some 3 by kernel_rfl).symm.trans hf) |>.symm
      obtain rfl : fn = Ybad.f3 := (Option.some.inj (Ybad.func3.symm.trans hfn)).symm
      exact ⟨by kernel_rfl, fun j t ht => by
        rw [Ybad.params3] at ht
        have hm : t ∈ [5, 4, 9] := by simpa using Array.mem_of_getElem? ht
        have hall : ([5, 4, 9].all fun u => !Ybad.prog.wantsStandIn u) = true := by kernel_rfl
        exact (show Ybad.prog.wantsStandIn t = false by simpa using List.all_eq_true.1 hall t hm)⟩)
    (by kernel_rfl)
end Go.Proofs.YbulkdrbgDoor.Law
