/-
  JOIN: 'l.chunks = append(l.chunks, m.chunks...); m.chunks = nil'.
-/
import Derived.Test.YbulkdrbgClone
import Derived.Deep.Upon
namespace Go.Proofs.Ybulkdrbg.Parts
open Go.ChangeShapes Go.WideShapes Go.ChangeAt Go.RowKit

/-- An append of nothing, as one step of a region that draws its order. -/
theorem step_append_nothing {P : Program} {ops : Array Oper} {o : Oper} {a : Act} {w : World} {K : Act → World → Prop} {Q : Exit → Act → World → Prop} {E : Prop}
    (hg : o.guard = none) (s x : Operand) (t : TypeId) (hop : o.op = Op.call { callee := Callee.builtin Builtin.append, args := #[s, x], argTypes := #[t, t] })
    (e : TypeId) (i : TypeInfo) (h1 : P.underlying t = some (.slice e)) (h2 : P.info? e = some i)
    (ao : Option Addr) (n cap : Nat) (hs : a.eval s = .slice ao n cap) (hle : n ≤ cap) (xo : Option Addr) (c : Nat) (hx : a.eval x = .slice xo 0 c)
    (hK : K (a.put o.dst (.slice ao n cap)) w) :
    if Region.wanted o (yielded ops a.tmps) = true then Oper.wp P o a w K Q else E := by
  have hw : Region.wanted o (yielded ops a.tmps) = true := by simp [Region.wanted, hg]
  rw [if_pos hw]
  have hsrc : Src P i.size t (.slice xo 0 c) 0 [] w := by
    cases xo with
    | none => exact Src.ofNil w h1 c
    | some ad => exact Src.ofSlice w h1 ad 0 c [] (by simp) (fun j u hu => by simp at hu) (fun u hu => by simp at hu)
  have hrun := run_append_nothing (P := P) w t t o.type e i h1 h2 ao n cap hle (.slice xo 0 c) hsrc
  unfold Oper.wp
  simp [execOp, hop, resolve, invoke, builtin, hs, hx, hrun, Result.andThen]
  exact hK

/-- all blocks but two are as they were -/
structure But2 (x y : Nat) (w w' : World) : Prop where
  os : w'.os = w.os
  tape : w'.tape = w.tape
  output : w'.output = w.output
  size : w.heap.size ≤ w'.heap.size
  block : ∀ k, k < w.heap.size → k ≠ x → k ≠ y → w'.heap[k]? = w.heap[k]?

structure Joined (bl bm : Nat) (al am : Option Addr) (nl nm : Nat) (V1 V2 : Nat → Value) (w w' : World) (aj : Option Addr) (cj : Nat) : Prop where
  cl : w'.cell? ⟨bl, 0, none⟩ = some (.slice aj (nl + nm) cj)
  cm : w'.cell? ⟨bm, 0, none⟩ = some (.slice none 0 0)
  nil : aj.isNone = (al.isNone && (nm == 0))
  top : ∀ r, r < nl + nm → ∃ b o, aj = some ⟨b, o, none⟩ ∧ w'.cell? ⟨b, o + r, none⟩ = some (if r < nl then V1 r else V2 (r - nl))
  kept : But2 bl bm w w'

def JoinPost (bl bm : Nat) (al am : Option Addr) (nl nm : Nat) (V1 V2 : Nat → Value) (w : World) (e : Ending) (w' : World) : Prop :=
  ∃ aj cj, e = .returned (.int .i64 ((nl : Int) * 4096)) ∧ Joined bl bm al am nl nm V1 V2 w w' aj cj

theorem Joined.drew {bl bm : Nat} {al am : Option Addr} {nl nm : Nat} {V1 V2 : Nat → Value} {w w' : World} {aj : Option Addr} {cj : Nat} (h : Joined bl bm al am nl nm V1 V2 w w' aj cj) : Joined bl bm al am nl nm V1 V2 w w'.drew aj cj :=
  ⟨h.cl, h.cm, h.nil, h.top, ⟨h.kept.os, h.kept.tape, h.kept.output, h.kept.size, h.kept.block⟩⟩

theorem joined_end {bl bm : Nat} {al am : Option Addr} {nl nm : Nat} {V1 V2 : Nat → Value} {w w1 : World} {aj : Option Addr} {cj : Nat} {x1 x2 : Value} (hne : bl ≠ bm)
    (h1 : w1.cell? ⟨bl, 0, none⟩ = some x1) (h2 : w1.cell? ⟨bm, 0, none⟩ = some x2) (hb : Below w.heap.size w w1) (hnil : aj.isNone = (al.isNone && (nm == 0)))
    (top : ∀ r, r < nl + nm → ∃ b o, aj = some ⟨b, o, none⟩ ∧ b ≠ bl ∧ b ≠ bm ∧ w1.cell? ⟨b, o + r, none⟩ = some (if r < nl then V1 r else V2 (r - nl))) :
    Joined bl bm al am nl nm V1 V2 w ((w1.setCell ⟨bl, 0, none⟩ (.slice aj (nl + nm) cj)).setCell ⟨bm, 0, none⟩ (.slice none 0 0)) aj cj := by
  have n1 : (⟨bm, 0, none⟩ : Addr) ≠ ⟨bl, 0, none⟩ := fun e => hne (by cases e; rfl)
  have n2 : (⟨bl, 0, none⟩ : Addr) ≠ ⟨bm, 0, none⟩ := fun e => hne (by cases e; rfl)
  refine ⟨?_, ?_, hnil, fun r hr => ?_, ⟨?_, ?_, ?_, ?_, fun k hk k1 k2 => ?_⟩⟩
  · rw [World.cell?_setCell_other _ _ _ _ n1]
    exact World.cell?_setCell_same _ _ _ h1
  · exact World.cell?_setCell_same _ _ _ ((World.cell?_setCell_other _ _ _ _ n2).trans h2)
  · obtain ⟨b, o, e, b1, b2, hc⟩ := top r hr
    refine ⟨b, o, e, ?_⟩
    rw [World.cell?_setCell_other _ _ _ _ (fun e => b2 (congrArg Addr.block e).symm), World.cell?_setCell_other _ _ _ _ (fun e => b1 (congrArg Addr.block e).symm)]
    exact hc
  · exact hb.os
  · exact hb.tape
  · exact hb.output
  · rw [Deep.nblk_setCell, Deep.nblk_setCell]; exact hb.size
  · rw [Below.heap_setCell _ _ _ _ k2, Below.heap_setCell _ _ _ _ k1]
    exact hb.block k hk

set_option maxHeartbeats 1000000 in
theorem join_nothing (bl bm : Nat) (al am : Option Addr) (nl cl cm : Nat) (V1 V2 : Nat → Value) (w : World) (hne : bl ≠ bm) (hn : nl ≤ 65536) (hcl : nl ≤ cl)
    (h1 : w.cell? ⟨bl, 0, none⟩ = some (.slice al nl cl)) (h2 : w.cell? ⟨bm, 0, none⟩ = some (.slice am 0 cm)) (f1 : w.frozen? ⟨bl, 0, none⟩ = false) (f2 : w.frozen? ⟨bm, 0, none⟩ = false)
    (ht1 : ∀ r, r < nl → ∃ b o, al = some ⟨b, o, none⟩ ∧ b ≠ bl ∧ b ≠ bm ∧ w.cell? ⟨b, o + r, none⟩ = some (V1 r)) :
    Calls Yba.prog 6 #[.pointer (some ⟨bl, 0, none⟩), .pointer (some ⟨bm, 0, none⟩)] w (JoinPost bl bm al am nl 0 V1 V2 w) := by
  obtain ⟨i30, hi30, hz1, hz2, hz3⟩ := info_parts info30
  go_enter Yba.func6, Yba.ntmps6
  go_wp2
  go_region_law (refine step_append_nothing rfl (.tmp 16) (.tmp 20) 22 rfl 30 i30 Yba.underlying22 hi30 al nl cl (by simp [Act.eval]) hcl am cm (by simp [Act.eval]) ?_)
  all_goals
    go_wp2
    go_ret
    exact ⟨al, cl, rfl, (joined_end (nm := 0) hne h1 h2 (Below.refl _ _) (by simp) (fun r hr => by
      obtain ⟨b, o, e, b1, b2, hc⟩ := ht1 r hr
      exact ⟨b, o, e, b1, b2, by rw [if_pos (by omega)]; exact hc⟩)).drew⟩

/-- the cells of the two lists -/
def vl (V : Nat → Value) (n : Nat) : List Value := (List.range n).map V
theorem vl_length (V : Nat → Value) (n : Nat) : (vl V n).length = n := by simp [vl]
theorem vl_at {V : Nat → Value} {n j : Nat} {v : Value} (h : (vl V n)[j]? = some v) : j < n ∧ v = V j := by
  have hj : j < (vl V n).length := by
    rcases Nat.lt_or_ge j (vl V n).length with h' | h'
    · exact h'
    · rw [List.getElem?_eq_none h'] at h; cases h
  rw [vl_length] at hj
  refine ⟨hj, ?_⟩
  simp [vl, hj] at h
  exact h.symm
theorem vl_get (V : Nat → Value) (n j : Nat) (h : j < n) : (vl V n)[j]? = some (V j) := by simp [vl, h]

theorem own_form {w4 : World} {B nl nm : Nat} {V1 V2 : Nat → Value} {v : Value} (h : w4.ownsRow B 30 1 v (nl + nm) (vl V1 nl ++ vl V2 nm)) (hpos : 0 < nm) :
    ∃ g c, v = .slice (some ⟨g, 0, none⟩) (nl + nm) c ∧ B ≤ g ∧ ∀ r, r < nl + nm → w4.cell? ⟨g, r, none⟩ = some (if r < nl then V1 r else V2 (r - nl)) := by
  obtain ⟨h1, h2 | ⟨g, cap, cur, hv, hg, hh, hle, hm, hs, ht⟩⟩ := h
  · omega
  · refine ⟨g, cap, hv, hg, fun r hr => ?_⟩
    have h3 : cur[r]? = (vl V1 nl ++ vl V2 nm)[r]? := by
      rw [← ht, List.getElem?_take_of_lt (by omega)]
      simp
    simp only [World.cell?, hh]
    show cur[r]? = _
    rw [h3]
    by_cases e : r < nl
    · rw [if_pos e, List.getElem?_append_left (by rw [vl_length]; exact e), vl_get _ _ _ e]
    · rw [if_neg e, List.getElem?_append_right (by rw [vl_length]; omega), vl_length, vl_get _ _ _ (by omega)]

set_option maxHeartbeats 1000000 in
theorem join_grows (bl bm : Nat) (al am : Option Addr) (nl nm cm : Nat) (V1 V2 : Nat → Value) (w : World) (hne : bl ≠ bm) (hn : nl ≤ 65536) (hm : nm ≤ 65536) (hpos : 0 < nm)
    (h1 : w.cell? ⟨bl, 0, none⟩ = some (.slice al nl nl)) (h2 : w.cell? ⟨bm, 0, none⟩ = some (.slice am nm cm)) (f1 : w.frozen? ⟨bl, 0, none⟩ = false) (f2 : w.frozen? ⟨bm, 0, none⟩ = false)
    (ht1 : ∀ r, r < nl → ∃ b o, al = some ⟨b, o, none⟩ ∧ w.cell? ⟨b, o + r, none⟩ = some (V1 r)) (hnil : al = none → nl = 0)
    (ht2 : ∀ r, r < nm → ∃ b o, am = some ⟨b, o, none⟩ ∧ w.cell? ⟨b, o + r, none⟩ = some (V2 r)) (hone : ∀ r, (V2 r).oneCell' = true) :
    Calls Yba.prog 6 #[.pointer (some ⟨bl, 0, none⟩), .pointer (some ⟨bm, 0, none⟩)] w (JoinPost bl bm al am nl nm V1 V2 w) := by
  obtain ⟨i30, hi30, hz1, hz2, hz3⟩ := info_parts info30
  obtain ⟨b0, o0, rfl, _⟩ := ht2 0 hpos
  have hbl : bl < w.heap.size := World.block_lt_of_cell? _ _ h1
  have hbm : bm < w.heap.size := World.block_lt_of_cell? _ _ h2
  have HO : Hid (∀ b, al = some b → ∀ j u, (vl V1 nl)[j]? = some u → w.drew.cell? (b.add j) = some u) := by
    intro b e j u hu
    obtain ⟨hj, rfl⟩ := vl_at hu
    obtain ⟨b', o', e', hc⟩ := ht1 j hj
    rw [e] at e'
    cases e'
    rw [World.cell?_drew, add_at]
    exact hc
  have HN : Hid (∀ j u, (vl V2 nm)[j]? = some u → w.drew.cell? ((⟨b0, o0, none⟩ : Addr).add j) = some u) := by
    intro j u hu
    obtain ⟨hj, rfl⟩ := vl_at hu
    obtain ⟨b', o', e', hc⟩ := ht2 j hj
    cases e'
    rw [World.cell?_drew, add_at]
    exact hc
  have HV : Hid (∀ u ∈ vl V2 nm, u.oneCell' = true) := by
    intro u hu
    simp only [vl, List.mem_map] at hu
    obtain ⟨j, _, rfl⟩ := hu
    exact hone j
  clear ht1 ht2 hone
  go_enter Yba.func6, Yba.ntmps6
  go_wp2
  go_region_law (refine step_append_grows rfl (.tmp 16) (.tmp 20) 22 rfl 30 i30 (.slice none 0 0) 1 24 Yba.underlying22 hi30 hz1 hz2 hz3 rfl (by decide) al nl nl (vl V1 nl) (by simp [Act.eval]) (fun e => ⟨hnil e, hnil e⟩) (by rw [vl_length]; omega) HO.out ⟨b0, o0, none⟩ nm cm (vl V2 nm) (by simp [Act.eval]) (by rw [vl_length]; omega) HN.out HV.out (by omega) (by unfold maxLen; omega) (by omega) ?_; intro v4 w4 hown hgrow; obtain ⟨g4, c4, hv4, hb4, hc4⟩ := own_form hown hpos; subst hv4; have HC4 : Hid _ := hc4; clear hc4 hown; have k1 : w4.cell? ⟨bl, 0, none⟩ = some (.slice al nl nl) := (World.cell?_of_block (w := w) (a := ⟨bl, 0, none⟩) (hgrow.block bl hbl (by simp))).trans h1; have k2 : w4.cell? ⟨bm, 0, none⟩ = some (.slice (some ⟨b0, o0, none⟩) nm cm) := (World.cell?_of_block (w := w) (a := ⟨bm, 0, none⟩) (hgrow.block bm hbm (by simp))).trans h2; have k3 : w4.frozen? ⟨bl, 0, none⟩ = false := (World.frozen?_of_block (w := w) (a := ⟨bl, 0, none⟩) (hgrow.block bl hbl (by simp))).trans f1; have k4 : w4.frozen? ⟨bm, 0, none⟩ = false := (World.frozen?_of_block (w := w) (a := ⟨bm, 0, none⟩) (hgrow.block bm hbm (by simp))).trans f2)
  all_goals
    have HB : Hid (Below w.heap.size w w4) := ⟨hgrow.os, hgrow.tape, hgrow.output, hgrow.size, fun k hk => hgrow.block k hk (by simp)⟩
    have hg4 : w.heap.size ≤ g4 := hb4
    have HE : Hid ((some (⟨g4, 0, none⟩ : Addr)).isNone = (al.isNone && (nm == 0))) := by
      have e : (nm == 0) = false := by rw [beq_eq_false_iff_ne]; omega
      rw [e]
      show _ = _
      simp
    clear hgrow hb4 HO HN HV
    go_wp2
    go_ret
    exact ⟨some ⟨g4, 0, none⟩, c4, rfl, joined_end (am := some ⟨b0, o0, none⟩) hne k1 k2 HB.out HE.out (fun r hr => ⟨g4, 0, rfl, by omega, by omega, by rw [Nat.zero_add]; exact HC4.out r hr⟩)⟩
end Go.Proofs.Ybulkdrbg.Parts
