/-
  THE ROW OF 'LawS5891CWhole'.
-/
import Derived.Test.YbulkdqzcCLaw
import Derived.Deep.Slices
import Derived.SizedLaws
namespace Go.Proofs.Ybulkdqzc.lawS5891CWhole
open Go.ChangeShapes Go.WideShapes Go.ChangeAt Go.RowKit

theorem own : ownKnob Yba.prog.godebug = none := by kernel_rfl
theorem laidOut : laidOutB Yba.prog = true := by kernel_rfl
theorem cells31 : Yba.prog.cellsOf 31 = 10 := by kernel_rfl
theorem cells5 : Yba.prog.cellsOf 5 = 1 := by kernel_rfl
theorem bytes31 : Yba.prog.bytesOf 31 = 32 := by kernel_rfl
theorem bytes5 : Yba.prog.bytesOf 5 = 1 := by kernel_rfl

theorem plain_of {w : World} {a : Addr} {v : Value} (h : w.cell? a = some v) : a = ⟨a.block, a.off, none⟩ := by
  obtain ⟨b, o, s⟩ := a
  have hs : s = none := by simpa using World.cell?_spot h
  subst hs
  rfl

theorem add_plain {a : Addr} (ha : a = ⟨a.block, a.off, none⟩) (r : Nat) : a.add r = ⟨a.block, a.off + r, none⟩ := by
  conv => lhs; rw [ha]
  exact PartsC.add_at _ _ _

theorem list10 {α : Type} {l : List α} (h : l.length = 10) : ∃ x0 x1 x2 x3 x4 x5 x6 x7 x8 x9, l = [x0, x1, x2, x3, x4, x5, x6, x7, x8, x9] := by
  match l, h with
  | [x0, x1, x2, x3, x4, x5, x6, x7, x8, x9], _ => exact ⟨x0, x1, x2, x3, x4, x5, x6, x7, x8, x9, rfl⟩

/-- a node as it comes in: its ten cells -/
theorem node_open {H : Type} {enc : TypeId × Value → H} {W : World} {fuel : Nat} {cs : List Value} {x : DataW H × List MemPlace} (h : DataW.trod enc Yba.prog W 0 (fun _ => true) true fuel 31 cs = some x) :
    ∃ Z : Nat → Int, cs = [.int .u32 (Z 0), .int .i32 (Z 1), .int .i32 (Z 2), .int .i32 (Z 3), .int .i32 (Z 4), .int .i32 (Z 5), .int .i32 (Z 6), .int .u16 (Z 7), .int .u8 (Z 8), .int .u8 (Z 9)] ∧ 0 ≤ Z 0 ∧ Z 0 ≤ 4294967295 := by
  obtain ⟨xs, n, _, rfl, hl, hlen, hf⟩ := DataW.trod_struct Yba.underlying31 h
  rw [cells31] at hl
  obtain ⟨x0, x1, x2, x3, x4, x5, x6, x7, x8, x9, rfl⟩ := list10 hl
  obtain ⟨y0, y1, y2, y3, y4, y5, y6, y7, y8, y9, rfl⟩ := list10 hlen
  have f0 := hf 0 _ rfl
  have f1 := hf 1 _ rfl
  have f2 := hf 2 _ rfl
  have f3 := hf 3 _ rfl
  have f4 := hf 4 _ rfl
  have f5 := hf 5 _ rfl
  have f6 := hf 6 _ rfl
  have f7 := hf 7 _ rfl
  have f8 := hf 8 _ rfl
  have f9 := hf 9 _ rfl
  clear hf h hl hlen
  simp only [List.getElem?_cons_zero, List.getElem?_cons_succ] at f0 f1 f2 f3 f4 f5 f6 f7 f8 f9
  obtain ⟨z0, e0, _, w0⟩ := DataW.trod_int Yba.underlying28 f0
  obtain ⟨z1, e1, _⟩ := DataW.trod_int Yba.underlying21 f1
  obtain ⟨z2, e2, _⟩ := DataW.trod_int Yba.underlying21 f2
  obtain ⟨z3, e3, _⟩ := DataW.trod_int Yba.underlying21 f3
  obtain ⟨z4, e4, _⟩ := DataW.trod_int Yba.underlying21 f4
  obtain ⟨z5, e5, _⟩ := DataW.trod_int Yba.underlying21 f5
  obtain ⟨z6, e6, _⟩ := DataW.trod_int Yba.underlying21 f6
  obtain ⟨z7, e7, _⟩ := DataW.trod_int Yba.underlying29 f7
  obtain ⟨z8, e8, _⟩ := DataW.trod_int Yba.underlying5 f8
  obtain ⟨z9, e9, _⟩ := DataW.trod_int Yba.underlying5 f9
  cases e0; cases e1; cases e2; cases e3; cases e4; cases e5; cases e6; cases e7; cases e8; cases e9
  have hw : (0 : Int) ≤ z0 ∧ z0 ≤ 4294967295 := by
    simpa [Lit.wf, IntKind.min, IntKind.max, IntKind.signed, IntKind.bits] using w0
  exact ⟨PartsC.cf z0 z1 z2 z3 z4 z5 z6 z7 z8 z9, rfl, hw.1, hw.2⟩

theorem zs_view {H : Type} {enc : TypeId × Value → H} {W : World} {ao : Option Addr} {n cap : Nat} {d : DataW H} {p : List MemPlace} (h : DataW.Trod enc Yba.prog W 0 (fun _ => true) true 26 (.slice ao n cap) d p) :
    ∃ Z, PartsC.Zs W ao n Z ∧ (n = 0 ∨ ∃ e s, d = .slice e s ∧ e.length = n) := by
  obtain ⟨fuel, hf⟩ := h
  rcases Deep.open_slice Yba.underlying26 hf with ⟨hcs, _⟩ | ⟨a, len, cap', m, k, D, Pl, hcs, _, hl, hm, hmm, hx, hr⟩
  · have e : ao = none ∧ n = 0 := by simp [Value.cells] at hcs; exact ⟨hcs.1, hcs.2.1⟩
    obtain ⟨rfl, rfl⟩ := e
    exact ⟨fun _ _ => 0, fun i hi => by omega, Or.inl rfl⟩
  · have e : ao = some a ∧ n = len ∧ cap = cap' := by simpa [Value.cells] using hcs
    obtain ⟨rfl, rfl, rfl⟩ := e
    have hnm : n ≤ m := by rw [hmm]; split <;> omega
    simp only [Prod.mk.injEq] at hx
    rw [cells31] at hr
    have hz : ∀ i, ∃ Z : Nat → Int, i < n → ∃ b o, some a = some ⟨b, o, none⟩ ∧ b < W.heap.size ∧ PartsC.Z10 W b (o + i * 10) Z := by
      intro i
      by_cases hi : i < n
      · obtain ⟨cs', hc, ht⟩ := hr i (by omega)
        obtain ⟨Z, rfl, _⟩ := node_open ht
        obtain ⟨_, _, hcell⟩ := World.cells?_some hc
        obtain ⟨cs0, hc0, ht0⟩ := hr 0 (by omega)
        obtain ⟨Z0, rfl, _⟩ := node_open ht0
        have h0 := (World.cells?_some hc0).2.2 0 (by omega)
        have hp : a = ⟨a.block, a.off, none⟩ := plain_of (w := W) (a := a) (v := .int .u32 (Z0 0)) (by simpa [Addr.add] using h0)
        have hc2 : ∀ j, j < 10 → W.cell? ⟨a.block, a.off + i * 10 + j, none⟩ = ([.int .u32 (Z 0), .int .i32 (Z 1), .int .i32 (Z 2), .int .i32 (Z 3), .int .i32 (Z 4), .int .i32 (Z 5), .int .i32 (Z 6), .int .u16 (Z 7), .int .u8 (Z 8), .int .u8 (Z 9)] : List Value)[j]? := by
          intro j hj
          have h3 := hcell j hj
          rw [add_plain hp, PartsC.add_at] at h3
          exact h3
        refine ⟨Z, fun _ => ⟨a.block, a.off, by rw [← hp], ?_, ?_⟩⟩
        · have h3 := hc2 0 (by omega)
          exact World.block_lt_of_cell? _ (⟨a.block, a.off + i * 10 + 0, none⟩) h3
        · exact ⟨hc2 0 (by omega), hc2 1 (by omega), hc2 2 (by omega), hc2 3 (by omega), hc2 4 (by omega), hc2 5 (by omega), hc2 6 (by omega), hc2 7 (by omega), hc2 8 (by omega), hc2 9 (by omega)⟩
      · exact ⟨fun _ => 0, fun h => absurd h hi⟩
    exact ⟨fun i => (hz i).choose, fun i hi => (hz i).choose_spec hi, Or.inr ⟨_, _, hx.1, by simp⟩⟩

theorem bs_view {H : Type} {enc : TypeId × Value → H} {W : World} {ao : Option Addr} {n cap : Nat} {d : DataW H} {p : List MemPlace} (h : DataW.Trod enc Yba.prog W 0 (fun _ => true) true 27 (.slice ao n cap) d p) :
    ∃ S, PartsC.Bs W ao n S ∧ (ao = none → n = 0 ∧ cap = 0) ∧ (n = 0 ∨ ∃ e s, d = .slice e s ∧ e.length = n) := by
  obtain ⟨fuel, hf⟩ := h
  rcases open_ints Yba.underlying27 Yba.underlying5 cells5 hf with ⟨hcs, _⟩ | ⟨a, len, cap', zs, hcs, _, hl, hm, hmm, hx, hr, hw⟩
  · have e : ao = none ∧ n = 0 ∧ cap = 0 := by simpa [Value.cells] using hcs
    obtain ⟨rfl, rfl, rfl⟩ := e
    exact ⟨fun _ => 0, fun i hi => by omega, fun _ => ⟨rfl, rfl⟩, Or.inl rfl⟩
  · have e : ao = some a ∧ n = len ∧ cap = cap' := by simpa [Value.cells] using hcs
    obtain ⟨rfl, rfl, rfl⟩ := e
    have hnm : n ≤ zs.length := by rw [hmm]; split <;> omega
    simp only [Prod.mk.injEq] at hx
    refine ⟨fun i => zs.getD i 0, fun i hi => ?_, fun e => (by cases e), Or.inr ⟨_, _, hx.1, by simp [lits]; omega⟩⟩
    have h0 := hr i (by omega)
    have hp : a = ⟨a.block, a.off, none⟩ := plain_of (w := W) (a := a) (v := .int .u8 (zs.getD 0 0)) (by simpa [Addr.add] using hr 0 (by omega))
    rw [add_plain hp] at h0
    have hwf := hw (zs.getD i 0) (by
      have hi' : i < zs.length := by omega
      simp [List.getD, hi'])
    have hw2 : (0 : Int) ≤ zs.getD i 0 ∧ zs.getD i 0 ≤ 255 := by
      simpa [Lit.wf, IntKind.min, IntKind.max, IntKind.signed, IntKind.bits] using hwf
    exact ⟨a.block, a.off, by rw [← hp], World.block_lt_of_cell? _ (⟨a.block, a.off + i, none⟩) h0, h0, hw2.1, hw2.2⟩

set_option maxRecDepth 100000 in
theorem lifted (os : Os) (started : os.Started) (H : Type) (enc : TypeId × Value → H) :
    ReturnsInHanded {} Yba.checked os 5 .any (Rows.lawS5891CWholeSpec.pre6 enc Yba.prog Yba.f5 Rows.lawS5891CWholeRow.domain false) (Rows.lawS5891CWholeSpec.post enc Yba.prog Yba.f5 false true false false) := by
  refine returnsInHanded_of_change_sized (C := Yba.checked) own started (by kernel_rfl) Yba.func5
    (ChangeSpec.witness6 (enc := enc) (C := Yba.checked) false ⟨#[], #[.slice none 0 0, .slice none 0 0, .slice none 0 0, PartsC.zv 0 0 0 0 0 0 0 0 0 0, .int .u32 0], []⟩ 8 (by kernel_rfl) (by kernel_rfl) (by kernel_rfl) (by kernel_rfl)) ?_
  intro W base args ds gs before hval0 hW hcnd hsz0 _
  have hval : ∀ (j : Nat) t v, Yba.f5.params[j]? = some t → args[j]? = some v → Value.okWide Yba.prog W .any base t v := hval0
  have hsz : (DataW.weightsEach Yba.prog (Yba.f5.params.toList ++ Rows.lawS5891CWholeSpec.plain.varTypes Yba.prog) (ds ++ gs)).all (· ≤ reachBytes) = true := hsz0
  have hW' := hW
  obtain ⟨p, q, hA0, hV, rfl, hfz, hnd⟩ := hW
  have hA : DataW.TrodAll enc Yba.prog W 0 (fun _ => true) true Yba.f5.params.toList args.toList ds p := hA0
  rw [Yba.params5] at hA hval hsz
  obtain ⟨v0, vs0, d0, ds0, p0, q0, hargs, rfl, rfl, h0, r0⟩ := trodAll_cons hA
  obtain ⟨v1, vs1, d1, ds1, p1, q1, rfl, rfl, rfl, h1, r1⟩ := trodAll_cons r0
  obtain ⟨v2, vs2, d2, ds2, p2, q2, rfl, rfl, rfl, h2, r2⟩ := trodAll_cons r1
  obtain ⟨v3, vs3, d3, ds3, p3, q3, rfl, rfl, rfl, h3, r3⟩ := trodAll_cons r2
  obtain ⟨v4, vs4, d4, ds4, p4, q4, rfl, rfl, rfl, h4, r4⟩ := trodAll_cons r3
  obtain ⟨rfl, rfl, rfl⟩ := trodAll_nil r4
  obtain rfl : args = #[v0, v1, v2, v3, v4] := by cases args; simp_all
  obtain ⟨rfl, rfl⟩ := trodVars_none hV
  obtain ⟨a0, n0, k0, rfl⟩ := okWide_slice Yba.underlying26 (hval 0 26 v0 rfl rfl)
  obtain ⟨a1, n1, k1, rfl⟩ := okWide_slice Yba.underlying26 (hval 1 26 v1 rfl rfl)
  obtain ⟨a2, n2, k2, rfl⟩ := okWide_slice Yba.underlying27 (hval 2 27 v2 rfl rfl)
  obtain ⟨cs, rfl, hcs⟩ := okWide_struct Yba.underlying31 (hval 3 31 v3 rfl rfl)
  obtain ⟨f, rfl, rfl, rfl, hwf⟩ := open_int Yba.underlying28 (hval 4 28 v4 rfl rfl) h4
  have hf : (0 : Int) ≤ f ∧ f ≤ 4294967295 := by
    simpa [Lit.wf, IntKind.min, IntKind.max, IntKind.signed, IntKind.bits] using hwf
  obtain ⟨Z1, hz1, b1⟩ := zs_view h0
  obtain ⟨Z2, hz2, b2⟩ := zs_view h1
  obtain ⟨S0, hs, hn, b3⟩ := bs_view h2
  obtain ⟨C, hC, hc0⟩ : ∃ C : Nat → Int, cs = #[.int .u32 (C 0), .int .i32 (C 1), .int .i32 (C 2), .int .i32 (C 3), .int .i32 (C 4), .int .i32 (C 5), .int .i32 (C 6), .int .u16 (C 7), .int .u8 (C 8), .int .u8 (C 9)] ∧ 0 ≤ C 0 ∧ C 0 ≤ 4294967295 := by
    obtain ⟨fuel, hh⟩ := h3
    obtain ⟨Z, hcs, hb⟩ := node_open hh
    refine ⟨Z, ?_, hb⟩
    obtain ⟨l⟩ := cs
    simp [Value.cells] at hcs
    rw [hcs]
  subst hC
  have l1 : n0 ≤ 140737488355328 := by
    rcases b1 with rfl | ⟨e, s, rfl, rfl⟩
    · omega
    · have := sized_slice hsz (j := 0) (t := 26) (e := 31) rfl rfl Yba.underlying26
      rw [bytes31] at this
      simp only [reachBytes] at this
      omega
  have l2 : n1 ≤ 140737488355328 := by
    rcases b2 with rfl | ⟨e, s, rfl, rfl⟩
    · omega
    · have := sized_slice hsz (j := 1) (t := 26) (e := 31) rfl rfl Yba.underlying26
      rw [bytes31] at this
      simp only [reachBytes] at this
      omega
  have l3 : n2 ≤ 140737488355328 := by
    rcases b3 with rfl | ⟨e, s, rfl, rfl⟩
    · omega
    · have := sized_slice hsz (j := 2) (t := 27) (e := 5) rfl rfl Yba.underlying27
      rw [bytes5] at this
      simp only [reachBytes] at this
      omega
  clear hA0 hval0 hsz hsz0
  have hlt0 : ∀ x ∈ p0, x.block < W.heap.size := fun x hx => by simpa using hW'.lt x (by simp [hx])
  have hlt1 : ∀ x ∈ p1, x.block < W.heap.size := fun x hx => by simpa using hW'.lt x (by simp [hx])
  have hlt2 : ∀ x ∈ p2, x.block < W.heap.size := fun x hx => by simpa using hW'.lt x (by simp [hx])
  have hlt3 : ∀ x ∈ p3, x.block < W.heap.size := fun x hx => by simpa using hW'.lt x (by simp [hx])
  have hall : Calls Yba.prog 5 #[.slice a0 n0 k0, .slice a1 n1 k1, .slice a2 n2 k2, PartsC.zv (C 0) (C 1) (C 2) (C 3) (C 4) (C 5) (C 6) (C 7) (C 8) (C 9), .int .u32 f] W (PartsC.LawPost W) := by
    by_cases hbig : 1048576 < n0 + n1 + n2
    · exact PartsC.law_big a0 a1 a2 n0 k0 n1 k1 n2 k2 _ _ _ _ _ _ _ _ _ _ f W l1 l2 l3 hbig
    · exact PartsC.law_any a0 a1 a2 n0 k0 n1 k1 n2 k2 _ _ _ _ _ _ _ _ _ _ f Z1 Z2 S0 W (by omega) hz1 hz2 hs hn hc0 hf
  refine hall.mono fun e W' ⟨he, hb⟩ => ?_
  subst he
  refine ⟨_, rfl, _, _, _, [], p0 ++ (p1 ++ (p2 ++ (p3 ++ ([] ++ [])))), [], hW', ?_, ?_, rfl, hb.frame _, fun h => by cases h⟩
  · exact trodAll_mk1 (shut_bool Yba.underlying4 _)
  · exact trodAll_cons_mk (Below.trod laidOut (by kernel_rfl) (of_decide_eq_true (by kernel_rfl)) h0 hb hlt0) (trodAll_cons_mk (Below.trod laidOut (by kernel_rfl) (of_decide_eq_true (by kernel_rfl)) h1 hb hlt1) (trodAll_cons_mk (Below.trod laidOut (by kernel_rfl) (of_decide_eq_true (by kernel_rfl)) h2 hb hlt2)
      (trodAll_cons_mk (Below.trod laidOut (by kernel_rfl) (of_decide_eq_true (by kernel_rfl)) h3 hb hlt3) (trodAll_cons_mk (shut_int Yba.underlying28 hwf) trodAll_mk0))))

theorem over : Rows.lawS5891CWholeRow.holds Yba.pinned (OpenSpec.ofChange Rows.lawS5891CWholeSpec) :=
  OpenClaim.holds_of_wide 5 Yba.f5 rfl rfl rfl rfl rfl rfl rfl ⟨rfl, rfl, rfl, rfl, rfl⟩ rfl rfl rfl rfl rfl (by kernel_rfl) Yba.func5 (by kernel_rfl)
    (of_decide_eq_true (by kernel_rfl)) (by unfold Func.isWrapper; first | (rw [if_pos (by decide +kernel)]; kernel_rfl) | (rw [if_neg (by decide +kernel)]; exact ⟨rfl, rfl⟩))
    (fun os started H enc _ => lifted os started H enc)

/-- THE STATEMENT -/
theorem proved : Rows.LawS5891CWholeSaid :=
  over
end Go.Proofs.Ybulkdqzc.lawS5891CWhole
