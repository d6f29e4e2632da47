/-
  THE ROW OF 'LawS5895AWhole'.
-/
import Derived.Test.YbulkdrbgLaw
import Derived.Deep.Matrix
import Derived.ShutString
namespace Go.Proofs.Ybulkdrbg.lawS5895AWhole
open Go.ChangeShapes Go.WideShapes Go.ChangeAt Go.RowKit

theorem own : ownKnob Yba.prog.godebug = none := by kernel_rfl
theorem laidOut : laidOutB Yba.prog = true := by kernel_rfl
theorem cells30 : Yba.prog.cellsOf 30 = 1 := by kernel_rfl
theorem cells3 : Yba.prog.cellsOf 3 = 1 := by kernel_rfl

theorem plain_of {w : World} {a : Addr} {v : Value} (h : w.cell? a = some v) : a = ⟨a.block, a.off, none⟩ := by
  obtain ⟨b, o, s⟩ := a
  have hs : s = none := by simpa using World.cell?_spot h
  subst hs
  rfl

theorem lt_of {w : World} {a : Addr} {v : Value} (h : w.cell? a = some v) : a.block < w.heap.size := by
  exact World.block_lt_of_cell? _ _ h

theorem add_plain {a : Addr} (ha : a = ⟨a.block, a.off, none⟩) (r : Nat) : a.add r = ⟨a.block, a.off + r, none⟩ := by
  conv => lhs; rw [ha]
  exact Parts.add_at _ _ _

theorem view {H : Type} {enc : TypeId × Value → H} {W : World} {ao : Option Addr} {n cap : Nat} {d : DataW H} {p : List MemPlace} (h : DataW.Trod enc Yba.prog W 0 (fun _ => true) true 22 (.slice ao n cap) d p) :
    ∃ (A : Nat → Option Addr) (L C : Nat → Nat) (Z : Nat → Nat → Int), Parts.Mat W 0 W.heap.size ao n A L C Z ∧ (ao = none → n = 0) ∧ n ≤ 9223372036854775807 := by
  obtain ⟨fuel, hf⟩ := h
  rcases Deep.open_int_rows Yba.underlying22 Yba.underlying30 Yba.underlying3 cells30 cells3 hf with ⟨hcs, _⟩ | ⟨a, len, cap', A, L, C, Z, hcs, _, hl, hm, _, hr⟩
  · have e : ao = none ∧ n = 0 := by simp [Value.cells] at hcs; exact ⟨hcs.1, hcs.2.1⟩
    obtain ⟨rfl, rfl⟩ := e
    exact ⟨fun _ => none, fun _ => 0, fun _ => 0, fun _ _ => 0, ⟨fun r h => by omega, fun r h => by omega, fun r h => by omega, fun r h => by omega⟩, fun _ => rfl, by omega⟩
  · have e : ao = some a ∧ n = len ∧ cap = cap' := by simpa [Value.cells] using hcs
    obtain ⟨rfl, rfl, rfl⟩ := e
    unfold maxLen at hm
    refine ⟨A, L, C, fun r c => (Z r).getD c 0, ⟨fun r h => ?_, fun r h c hc => ?_, fun r h e => ?_, fun r h => ?_⟩, fun e => (by cases e), by omega⟩
    · obtain ⟨h1, _⟩ := hr r (by omega)
      have h0 := (hr 0 (by omega)).1
      have ha : a = ⟨a.block, a.off, none⟩ := plain_of (w := W) (a := a) (by simpa [Addr.add] using h0)
      rw [add_plain ha] at h1
      exact ⟨a.block, a.off, by rw [← ha], Nat.zero_le _, lt_of (a := ⟨a.block, a.off + r, none⟩) h1, h1⟩
    · obtain ⟨_, h2, h3, h4, _, h6, h7⟩ := hr r (by omega)
      cases hA : A r with
      | none => have := h6 hA; omega
      | some a' =>
        obtain ⟨_, h8⟩ := h7 a' hA
        have h0 := h8 0 (by omega)
        have ha : a' = ⟨a'.block, a'.off, none⟩ := plain_of (w := W) (a := a') (by simpa [Addr.add] using h0)
        have h9 := h8 c (by omega)
        rw [add_plain ha] at h9
        exact ⟨a'.block, a'.off, by rw [← ha], Nat.zero_le _, lt_of (a := ⟨a'.block, a'.off + c, none⟩) h9, h9⟩
    · obtain ⟨_, h2, h3, h4, _, h6, h7⟩ := hr r (by omega)
      have := h6 e; omega
    · obtain ⟨_, h2, h3, _⟩ := hr r (by omega)
      unfold maxLen at h3; omega

set_option maxRecDepth 100000 in
theorem lifted (os : Os) (started : os.Started) (H : Type) (enc : TypeId × Value → H) :
    ReturnsInHanded {} Yba.checked os 3 .any (Rows.lawS5895AWholeSpec.pre6 enc Yba.prog Yba.f3 Rows.lawS5895AWholeRow.domain false) (Rows.lawS5895AWholeSpec.post enc Yba.prog Yba.f3 false true false false) := by
  refine returnsInHanded_of_change (C := Yba.checked) own started (by kernel_rfl) Yba.func3
    (ChangeSpec.witness6 (enc := enc) (C := Yba.checked) false ⟨#[], #[.slice none 0 0, .slice none 0 0], []⟩ 8 (by kernel_rfl) (by kernel_rfl) (by kernel_rfl) (by kernel_rfl)) ?_
  intro W base args ds gs before hval0 hW hcnd _
  have hval : ∀ (j : Nat) t v, Yba.f3.params[j]? = some t → args[j]? = some v → Value.okWide Yba.prog W .any base t v := hval0
  have hW' := hW
  obtain ⟨p, q, hA0, hV, rfl, hfz, hnd⟩ := hW
  have hA : DataW.TrodAll enc Yba.prog W 0 (fun _ => true) true Yba.f3.params.toList args.toList ds p := hA0
  rw [Yba.params3] at hA hval
  obtain ⟨v0, v1, d0, d1, p0, p1, rfl, rfl, rfl, h0, h1⟩ := trodAll_two hA
  obtain ⟨rfl, rfl⟩ := trodVars_none hV
  obtain ⟨a0, n0, c0, rfl⟩ := okWide_slice Yba.underlying22 (hval 0 22 v0 rfl rfl)
  obtain ⟨a1, n1, c1, rfl⟩ := okWide_slice Yba.underlying22 (hval 1 22 v1 rfl rfl)
  obtain ⟨A, L, C, Z, m0, e0, b0⟩ := view h0
  obtain ⟨A', L', C', Z', m1, e1, b1⟩ := view h1
  clear hA0 hval0
  have hlt0 : ∀ x ∈ p0, x.block < W.heap.size := fun x hx => by simpa using hW'.lt x (by simp [hx])
  have hlt1 : ∀ x ∈ p1, x.block < W.heap.size := fun x hx => by simpa using hW'.lt x (by simp [hx])
  refine (Parts.law_any a0 a1 n0 c0 n1 c1 A L C Z A' L' C' Z' W m0 m1 e0 e1 b0 b1).mono fun e W' ⟨he, hb⟩ => ?_
  subst he
  refine ⟨_, rfl, _, _, _, [], p0 ++ p1, [], hW', ?_, ?_, rfl, hb.frame _, fun h => by cases h⟩
  · exact trodAll_mk1 (shut_bool Yba.underlying4 _)
  · exact trodAll_mk2 (Below.trod laidOut (by kernel_rfl) (of_decide_eq_true (by kernel_rfl)) h0 hb hlt0) (Below.trod laidOut (by kernel_rfl) (of_decide_eq_true (by kernel_rfl)) h1 hb hlt1)

theorem over : Rows.lawS5895AWholeRow.holds Yba.pinned (OpenSpec.ofChange Rows.lawS5895AWholeSpec) :=
  OpenClaim.holds_of_wide 3 Yba.f3 rfl rfl rfl rfl rfl rfl rfl ⟨rfl, rfl, rfl, rfl, rfl⟩ rfl rfl rfl rfl rfl (by kernel_rfl) Yba.func3 (by kernel_rfl)
    (of_decide_eq_true (by kernel_rfl)) (by unfold Func.isWrapper; first | (rw [if_pos (by decide +kernel)]; kernel_rfl) | (rw [if_neg (by decide +kernel)]; exact ⟨rfl, rfl⟩))
    (fun os started H enc _ => lifted os started H enc)

/-- THE STATEMENT -/
theorem proved : Rows.LawS5895AWholeSaid :=
  over
end Go.Proofs.Ybulkdrbg.lawS5895AWhole
