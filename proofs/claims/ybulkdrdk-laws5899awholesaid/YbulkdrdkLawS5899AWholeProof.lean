/-
  THE ROW OF 'LawS5899AWhole'.
-/
import Derived.Test.YbulkdrdkLaw
import Derived.Deep.Slices
import Derived.SizedLaws
import Derived.ChangeMaps5
namespace Go.Proofs.Ybulkdrdk.lawS5899AWhole
open Go.ChangeShapes Go.WideShapes Go.ChangeAt Go.RowKit
open Go.ChangeMaps (open_string shut_string)

theorem own : ownKnob Yba.prog.godebug = none := by kernel_rfl
theorem laidOut : laidOutB Yba.prog = true := by kernel_rfl
theorem cells24 : Yba.prog.cellsOf 24 = 4 := by kernel_rfl
theorem bytes24 : Yba.prog.bytesOf 24 = 48 := by kernel_rfl

theorem plain_of {w : World} {a : Addr} {v : Value} (h : w.cell? a = some v) : a = ⟨a.block, a.off, none⟩ := by
  obtain ⟨b, o, s⟩ := a
  have hs : s = none := by simpa using World.cell?_spot h
  subst hs
  rfl

theorem add_at (b o j : Nat) : (⟨b, o, none⟩ : Addr).add j = ⟨b, o + j, none⟩ := by
  unfold Addr.add
  split <;> simp_all

theorem add_plain {a : Addr} (ha : a = ⟨a.block, a.off, none⟩) (r : Nat) : a.add r = ⟨a.block, a.off + r, none⟩ := by
  conv => lhs; rw [ha]
  exact add_at _ _ _

theorem list4 {α : Type} {l : List α} (h : l.length = 4) : ∃ x0 x1 x2 x3, l = [x0, x1, x2, x3] := by
  match l, h with
  | [x0, x1, x2, x3], _ => exact ⟨x0, x1, x2, x3, rfl⟩

set_option maxRecDepth 100000 in
/-- a member as it comes in -/
theorem memb_open {H : Type} {enc : TypeId × Value → H} {W : World} {fuel : Nat} {cs : List Value} {x : DataW H × List MemPlace} (h : DataW.trod enc Yba.prog W 0 (fun _ => true) true fuel 24 cs = some x) :
    ∃ (s r : ByteArray) (n m : Int), cs = [.string s, .string r, .int .i64 n, .int .u8 m] ∧ x.1 = .agg [.lit (.string s.data.toList), .lit (.string r.data.toList), .lit (.int .i64 n), .lit (.int .u8 m)] ∧ (-9223372036854775808 ≤ n ∧ n ≤ 9223372036854775807) ∧ (0 ≤ m ∧ m ≤ 255) := by
  obtain ⟨xs, k, _, rfl, hl, hlen, hf⟩ := DataW.trod_struct Yba.underlying24 h
  rw [cells24] at hl
  obtain ⟨x0, x1, x2, x3, rfl⟩ := list4 hl
  obtain ⟨y0, y1, y2, y3, rfl⟩ := list4 hlen
  have f0 := hf 0 _ rfl
  have f1 := hf 1 _ rfl
  have f2 := hf 2 _ rfl
  have f3 := hf 3 _ rfl
  clear hf h hl hlen
  simp only [List.getElem?_cons_zero, List.getElem?_cons_succ] at f0 f1 f2 f3
  obtain ⟨s, e0, r0, _⟩ := DataW.trod_string Yba.underlying9 f0
  obtain ⟨r, e1, r1, _⟩ := DataW.trod_string Yba.underlying9 f1
  obtain ⟨n, e2, r2, w2⟩ := DataW.trod_int Yba.underlying2 f2
  obtain ⟨m, e3, r3, w3⟩ := DataW.trod_int Yba.underlying5 f3
  cases e0; cases e1; cases e2; cases e3
  subst r0 r1 r2 r3
  have hn : (-9223372036854775808 : Int) ≤ n ∧ n ≤ 9223372036854775807 := by
    simpa [Lit.wf, IntKind.min, IntKind.max, IntKind.signed, IntKind.bits] using w2
  have hm : (0 : Int) ≤ m ∧ m ≤ 255 := by
    simpa [Lit.wf, IntKind.min, IntKind.max, IntKind.signed, IntKind.bits] using w3
  exact ⟨s, r, n, m, rfl, rfl, hn, hm⟩

theorem mem_all {H : Type} {P : Program} {e : TypeId} {d : DataW H} {x : Nat} : ∀ {l : List (DataW H)}, d ∈ l → x ∈ d.weights P e → x ∈ DataW.weightsAll P e l
  | a :: l, hd, hx => by
    rw [DataW.weightsAll, List.mem_append]
    rcases List.mem_cons.1 hd with rfl | h
    · exact Or.inl hx
    · exact Or.inr (mem_all h hx)

theorem ms_view {H : Type} {enc : TypeId × Value → H} {W : World} {ao : Option Addr} {n cap : Nat} {d : DataW H} {p : List MemPlace} (h : DataW.Trod enc Yba.prog W 0 (fun _ => true) true 22 (.slice ao n cap) d p)
    (hw : ∀ x ∈ d.weights Yba.prog 22, x ≤ 140737488351232) :
    ∃ Ns Rs Nm Md, Parts.Ms W ao n Ns Rs Nm Md ∧ n * 48 ≤ 140737488351232 := by
  obtain ⟨fuel, hf⟩ := h
  rcases Deep.open_slice Yba.underlying22 hf with ⟨hcs, _⟩ | ⟨a, len, cap', m, k, D, Pl, hcs, _, hl, hm, hmm, hx, hr⟩
  · have e : ao = none ∧ n = 0 := by simp [Value.cells] at hcs; exact ⟨hcs.1, hcs.2.1⟩
    obtain ⟨rfl, rfl⟩ := e
    exact ⟨fun _ => ⟨#[]⟩, fun _ => ⟨#[]⟩, fun _ => 0, fun _ => 0, fun i hi => by omega, by omega⟩
  · have e : ao = some a ∧ n = len ∧ cap = cap' := by simpa [Value.cells] using hcs
    obtain ⟨rfl, rfl, rfl⟩ := e
    have hnm : n ≤ m := by rw [hmm]; split <;> omega
    simp only [Prod.mk.injEq] at hx
    rw [cells24] at hr
    have hd := hx.1
    subst hd
    have hn48 : n * 48 ≤ 140737488351232 := by
      have := hw _ (show ((List.map D (List.range n)).length + (List.map (fun j => D (n + j)) (List.range (m - n))).length) * Yba.prog.bytesOf 24 ∈ _ by simp [DataW.weights, Yba.underlying22])
      rw [bytes24] at this
      simp at this
      omega
    have hz : ∀ i, ∃ z : ByteArray × ByteArray × Int × Int, i < n → ∃ b o, some a = some ⟨b, o, none⟩ ∧ b < W.heap.size ∧
        W.cell? ⟨b, o + i * 4, none⟩ = some (.string z.1) ∧ W.cell? ⟨b, o + i * 4 + 1, none⟩ = some (.string z.2.1) ∧ W.cell? ⟨b, o + i * 4 + 2, none⟩ = some (.int .i64 z.2.2.1) ∧ W.cell? ⟨b, o + i * 4 + 3, none⟩ = some (.int .u8 z.2.2.2) ∧
        z.1.size ≤ 140737488351232 ∧ z.2.1.size ≤ 140737488351232 ∧ (-9223372036854775808 ≤ z.2.2.1 ∧ z.2.2.1 ≤ 9223372036854775807) ∧ (0 ≤ z.2.2.2 ∧ z.2.2.2 ≤ 255) := by
      intro i
      by_cases hi : i < n
      · obtain ⟨cs', hc, ht⟩ := hr i (by omega)
        obtain ⟨s, r, nn, mm, rfl, hD, h1, h2⟩ := memb_open ht
        obtain ⟨_, _, hcell⟩ := World.cells?_some hc
        obtain ⟨cs0, hc0, ht0⟩ := hr 0 (by omega)
        obtain ⟨s0, r0, n0, m0, rfl, _⟩ := memb_open ht0
        have h0 := (World.cells?_some hc0).2.2 0 (by omega)
        have hp : a = ⟨a.block, a.off, none⟩ := plain_of (w := W) (a := a) (v := .string s0) (by simpa [Addr.add] using h0)
        have hc2 : ∀ j, j < 4 → W.cell? ⟨a.block, a.off + i * 4 + j, none⟩ = ([.string s, .string r, .int .i64 nn, .int .u8 mm] : List Value)[j]? := by
          intro j hj
          have h3 := hcell j hj
          rw [add_plain hp, add_at] at h3
          exact h3
        have hmem : D i ∈ List.map D (List.range n) := List.mem_map.2 ⟨i, by simp [hi], rfl⟩
        have hD' : D i = .agg [.lit (.string s.data.toList), .lit (.string r.data.toList), .lit (.int .i64 nn), .lit (.int .u8 mm)] := hD
        have hws : ∀ x ∈ (D i).weights Yba.prog 24, x ≤ 140737488351232 := fun x hx => hw x (by
          rw [DataW.weights, Yba.underlying22]
          exact List.mem_cons_of_mem _ (List.mem_append_left _ (mem_all hmem hx)))
        rw [hD'] at hws
        have k1 := hws s.data.toList.length (by simp [DataW.weights, DataW.weightsEach, Yba.underlying24])
        have k2 := hws r.data.toList.length (by simp [DataW.weights, DataW.weightsEach, Yba.underlying24])
        refine ⟨(s, r, nn, mm), fun _ => ⟨a.block, a.off, by rw [← hp], ?_, hc2 0 (by omega), hc2 1 (by omega), hc2 2 (by omega), hc2 3 (by omega), by simpa using k1, by simpa using k2, h1, h2⟩⟩
        have h3 := hc2 0 (by omega)
        exact World.block_lt_of_cell? _ (⟨a.block, a.off + i * 4 + 0, none⟩) h3
      · exact ⟨(⟨#[]⟩, ⟨#[]⟩, 0, 0), fun h => absurd h hi⟩
    exact ⟨fun i => (hz i).choose.1, fun i => (hz i).choose.2.1, fun i => (hz i).choose.2.2.1, fun i => (hz i).choose.2.2.2, fun i hi => (hz i).choose_spec hi, hn48⟩

set_option maxRecDepth 100000 in
theorem lifted (os : Os) (started : os.Started) (H : Type) (enc : TypeId × Value → H) :
    ReturnsInHanded {} Yba.checked os 3 .any (Rows.lawS5899AWholeSpec.pre6 enc Yba.prog Yba.f3 Rows.lawS5899AWholeRow.domain false) (Rows.lawS5899AWholeSpec.post enc Yba.prog Yba.f3 false true false false) := by
  refine returnsInHanded_of_change_sized (C := Yba.checked) own started (by kernel_rfl) Yba.func3
    (ChangeSpec.witness6 (enc := enc) (C := Yba.checked) false ⟨#[], #[.slice none 0 0, .int .u8 0, .string ⟨#[]⟩, .int .i64 0, .bool false, .bool false, .string ⟨#[]⟩, .string ⟨#[]⟩, .int .i64 0], []⟩ 8 (by kernel_rfl) (by kernel_rfl) (by kernel_rfl) (by kernel_rfl)) ?_
  intro W base args ds gs before hval0 hW hcnd hsz0 _
  have hval : ∀ (j : Nat) t v, Yba.f3.params[j]? = some t → args[j]? = some v → Value.okWide Yba.prog W .any base t v := hval0
  have hsz : (DataW.weightsEach Yba.prog (Yba.f3.params.toList ++ Rows.lawS5899AWholeSpec.plain.varTypes Yba.prog) (ds ++ gs)).all (· ≤ reachBytes) = true := hsz0
  have hW' := hW
  obtain ⟨p, q, hA0, hV, rfl, hfz, hnd⟩ := hW
  have hA : DataW.TrodAll enc Yba.prog W 0 (fun _ => true) true Yba.f3.params.toList args.toList ds p := hA0
  rw [Yba.params3] at hA hval hsz
  obtain ⟨v0, vs0, d0, ds0, p0, q0, hargs, rfl, rfl, h0, r0⟩ := trodAll_cons hA
  obtain ⟨v1, vs1, d1, ds1, p1, q1, rfl, rfl, rfl, h1, r1⟩ := trodAll_cons r0
  obtain ⟨v2, vs2, d2, ds2, p2, q2, rfl, rfl, rfl, h2, r2⟩ := trodAll_cons r1
  obtain ⟨v3, vs3, d3, ds3, p3, q3, rfl, rfl, rfl, h3, r3⟩ := trodAll_cons r2
  obtain ⟨v4, vs4, d4, ds4, p4, q4, rfl, rfl, rfl, h4, r4⟩ := trodAll_cons r3
  obtain ⟨v5, vs5, d5, ds5, p5, q5, rfl, rfl, rfl, h5, r5⟩ := trodAll_cons r4
  obtain ⟨v6, vs6, d6, ds6, p6, q6, rfl, rfl, rfl, h6, r6⟩ := trodAll_cons r5
  obtain ⟨v7, vs7, d7, ds7, p7, q7, rfl, rfl, rfl, h7, r7⟩ := trodAll_cons r6
  obtain ⟨v8, vs8, d8, ds8, p8, q8, rfl, rfl, rfl, h8, r8⟩ := trodAll_cons r7
  obtain ⟨rfl, rfl, rfl⟩ := trodAll_nil r8
  obtain rfl : args = #[v0, v1, v2, v3, v4, v5, v6, v7, v8] := by cases args; simp_all
  obtain ⟨rfl, rfl⟩ := trodVars_none hV
  obtain ⟨a0, n0, k0, rfl⟩ := okWide_slice Yba.underlying22 (hval 0 22 v0 rfl rfl)
  obtain ⟨pick, rfl, rfl, rfl, w1⟩ := open_int Yba.underlying5 (hval 1 5 v1 rfl rfl) h1
  obtain ⟨name, rfl, rfl, rfl, w2⟩ := open_string Yba.underlying9 (hval 2 9 v2 rfl rfl) h2
  obtain ⟨least, rfl, rfl, rfl, w3⟩ := open_int Yba.underlying2 (hval 3 2 v3 rfl rfl) h3
  obtain ⟨mal, rfl, rfl, rfl⟩ := open_bool Yba.underlying4 (hval 4 4 v4 rfl rfl) h4
  obtain ⟨inv, rfl, rfl, rfl⟩ := open_bool Yba.underlying4 (hval 5 4 v5 rfl rfl) h5
  obtain ⟨id, rfl, rfl, rfl, w6⟩ := open_string Yba.underlying9 (hval 6 9 v6 rfl rfl) h6
  obtain ⟨op, rfl, rfl, rfl, w7⟩ := open_string Yba.underlying9 (hval 7 9 v7 rfl rfl) h7
  obtain ⟨tm, rfl, rfl, rfl, w8⟩ := open_int Yba.underlying2 (hval 8 2 v8 rfl rfl) h8
  have hp : (0 : Int) ≤ pick ∧ pick ≤ 255 := by
    simpa [Lit.wf, IntKind.min, IntKind.max, IntKind.signed, IntKind.bits] using w1
  have hnm : name.size ≤ 140737488351232 := by
    have := sized_string hsz (j := 2) (t := 9) rfl rfl
    simpa [reachBytes] using this
  obtain ⟨Ns, Rs, Nm, Md, hM, hn⟩ := ms_view h0 (fun x hx => by
    have := List.all_eq_true.1 hsz _ (DataW.weights_mem_each (j := 0) (t := 22) rfl rfl x hx)
    exact of_decide_eq_true this)
  clear hA0 hval0 hsz hsz0
  have hlt0 : ∀ x ∈ p0, x.block < W.heap.size := fun x hx => by simpa using hW'.lt x (by simp [hx])
  refine (Parts.law_any a0 n0 k0 pick least tm mal inv name id op W Ns Rs Nm Md hM hn hp hnm).mono fun e W' ⟨he, hb⟩ => ?_
  subst he
  refine ⟨_, rfl, _, _, _, [], p0 ++ ([] ++ ([] ++ ([] ++ ([] ++ ([] ++ ([] ++ ([] ++ ([] ++ [])))))))), [], hW', ?_, ?_, rfl, hb.frame _, fun h => by cases h⟩
  · exact trodAll_mk1 (shut_bool Yba.underlying4 _)
  · exact trodAll_cons_mk (Below.trod laidOut (by kernel_rfl) (of_decide_eq_true (by kernel_rfl)) h0 hb hlt0) (trodAll_cons_mk (shut_int Yba.underlying5 w1) (trodAll_cons_mk (shut_string Yba.underlying9 w2) (trodAll_cons_mk (shut_int Yba.underlying2 w3) (trodAll_cons_mk (shut_bool Yba.underlying4 _)
      (trodAll_cons_mk (shut_bool Yba.underlying4 _) (trodAll_cons_mk (shut_string Yba.underlying9 w6) (trodAll_cons_mk (shut_string Yba.underlying9 w7) (trodAll_cons_mk (shut_int Yba.underlying2 w8) trodAll_mk0))))))))

theorem over : Rows.lawS5899AWholeRow.holds Yba.pinned (OpenSpec.ofChange Rows.lawS5899AWholeSpec) :=
  OpenClaim.holds_of_wide 3 Yba.f3 rfl rfl rfl rfl rfl rfl rfl ⟨rfl, rfl, rfl, rfl, rfl⟩ rfl rfl rfl rfl rfl (by kernel_rfl) Yba.func3 (by kernel_rfl)
    (of_decide_eq_true (by kernel_rfl)) (by unfold Func.isWrapper; first | (rw [if_pos (by decide +kernel)]; kernel_rfl) | (rw [if_neg (by decide +kernel)]; exact ⟨rfl, rfl⟩))
    (fun os started H enc _ => lifted os started H enc)

/-- THE STATEMENT -/
theorem proved : Rows.LawS5899AWholeSaid :=
  over
end Go.Proofs.Ybulkdrdk.lawS5899AWhole
