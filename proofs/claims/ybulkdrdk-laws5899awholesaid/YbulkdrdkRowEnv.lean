/-
  The rows that the law fills.
-/
import Derived.Test.YbulkdrdkL8
namespace Go.Proofs.Ybulkdrdk.Parts
open Go.ChangeShapes Go.WideShapes Go.ChangeAt Go.RowKit
set_option linter.unusedVariables false

/-- what '[]byte(s)' leaves -/
structure NewB (w w' : World) (s : ByteArray) : Prop where
  below : Below w.heap.size w w'
  bytes : Lib.Bytes w' w.heap.size 0 s
  size : w.heap.size < w'.heap.size

theorem newB_of (w : World) (s : ByteArray) (cap : Nat) (fr : Nat × Nat) : NewB w (w.drew.alloc (.cells (bytesRow s cap) 5 fr)) s := by
  have hh : (w.drew.alloc (.cells (bytesRow s cap) 5 fr)).heap[w.heap.size]? = some (.cells (bytesRow s cap) 5 fr) := Deep.blk_alloc_new w.drew _
  refine ⟨((Below.refl _ _).drew).alloc (Nat.le_refl _) _, fun i hi => ?_, by show _ < (w.heap.push _).size; simp⟩
  simp only [World.cell?, hh]
  show (bytesRow s cap)[0 + i]? = _
  have hi' : i < s.data.size := hi
  rw [Nat.zero_add, bytesRow, Array.getElem?_append_left (by simpa using hi'), Array.getElem?_map, Array.getElem?_eq_getElem hi']
  rfl

theorem step_bytes {ops : Array Oper} {o : Oper} {a : Act} {w : World} {K : Act → World → Prop} {Q : Exit → Act → World → Prop} {E : Prop}
    (hg : o.guard = none) (x : Operand) (hop : o.op = .convert 9 28 x) (s : ByteArray) (hs : a.eval x = .string s)
    (hK : ∀ w' c, NewB w w' s → K (a.put o.dst (.slice (some ⟨w.heap.size, 0, none⟩) s.size c)) w') :
    if Region.wanted o (yielded ops a.tmps) = true then Oper.wp Yba.prog o a w K Q else E := by
  have hw : Region.wanted o (yielded ops a.tmps) = true := by simp [Region.wanted, hg]
  rw [if_pos hw]
  have hrun := run_bytes_of_string (P := Yba.prog) w 9 28 5 s Yba.underlying9 Yba.underlying28 Yba.underlying5
  unfold Oper.wp
  simp [execOp, hop, hs, hrun, Result.andThen]
  exact hK _ _ (newB_of w s _ _)

def mcell (Ns Vs : Nat → ByteArray) (A B C D : Nat → Nat) (c : Nat) : Value := if c % 2 = 0 then .slice (some ⟨A (c / 2), 0, none⟩) (Ns (c / 2)).size (C (c / 2)) else .slice (some ⟨B (c / 2), 0, none⟩) (Vs (c / 2)).size (D (c / 2))

/-- the three rows, filled so far -/
structure L2 (W wr : World) (bn bv bm n kn kv km : Nat) (Ns Vs : Nat → ByteArray) (A B C D : Nat → Nat) (fn fv fm : Nat → Value) : Prop where
  below : Below W.heap.size W wr
  nrow : wr.rowIs bn 9 n (fun i => if i < kn then .string (Ns i) else fn i)
  vrow : wr.rowIs bv 9 n (fun i => if i < kv then .string (Vs i) else fv i)
  mrow : wr.rowIs bm 30 (n * 2) (fun c => if c < km * 2 then mcell Ns Vs A B C D c else fm c)
  nb : ∀ i, i < km → Lib.Bytes wr (A i) 0 (Ns i)
  vb : ∀ i, i < km → Lib.Bytes wr (B i) 0 (Vs i)
  al : ∀ i, i < km → (A i < wr.heap.size ∧ A i ≠ bn ∧ A i ≠ bv ∧ A i ≠ bm) ∧ (B i < wr.heap.size ∧ B i ≠ bn ∧ B i ≠ bv ∧ B i ≠ bm)
  ne : bn ≠ bv ∧ bn ≠ bm ∧ bv ≠ bm ∧ W.heap.size ≤ bn ∧ W.heap.size ≤ bv ∧ W.heap.size ≤ bm

theorem row_keep {w w' : World} {b t n : Nat} {f : Nat → Value} (h : w.rowIs b t n f) (hb : w'.heap[b]? = w.heap[b]?) : w'.rowIs b t n f := by
  obtain ⟨cur, h1, h2, h3⟩ := h
  exact ⟨cur, hb.trans h1, h2, h3⟩

theorem bytes_keep {w w' : World} {b : Nat} {s : ByteArray} (h : Lib.Bytes w b 0 s) (hb : w'.heap[b]? = w.heap[b]?) : Lib.Bytes w' b 0 s := fun i hi =>
  (World.cell?_of_block (w := w) (a := ⟨b, 0 + i, none⟩) hb).trans (h i hi)

theorem L2.mono {W wr w' : World} {bn bv bm n kn kv km : Nat} {Ns Vs : Nat → ByteArray} {A B C D : Nat → Nat} {fn fv fm : Nat → Value} (h : L2 W wr bn bv bm n kn kv km Ns Vs A B C D fn fv fm) (hb : Below wr.heap.size wr w') : L2 W w' bn bv bm n kn kv km Ns Vs A B C D fn fv fm := by
  have z := hb.size
  refine ⟨h.below.trans (hb.mono h.below.size), row_keep h.nrow (hb.block _ h.nrow.lt), row_keep h.vrow (hb.block _ h.vrow.lt), row_keep h.mrow (hb.block _ h.mrow.lt), fun i hi => bytes_keep (h.nb i hi) (hb.block _ (h.al i hi).1.1), fun i hi => bytes_keep (h.vb i hi) (hb.block _ (h.al i hi).2.1), fun i hi => ?_, h.ne⟩
  have := h.al i hi
  omega

theorem L2.setN {W wr : World} {bn bv bm n kn kv km : Nat} {Ns Vs : Nat → ByteArray} {A B C D : Nat → Nat} {fn fv fm : Nat → Value} (h : L2 W wr bn bv bm n kn kv km Ns Vs A B C D fn fv fm) : L2 W (wr.setCell ⟨bn, kn, none⟩ (.string (Ns kn))) bn bv bm n (kn + 1) kv km Ns Vs A B C D fn fv fm := by
  obtain ⟨e1, e2, e3, e4, e5, e6⟩ := h.ne
  have ho : ∀ k, k ≠ bn → (wr.setCell ⟨bn, kn, none⟩ (.string (Ns kn))).heap[k]? = wr.heap[k]? := fun k hk => Below.heap_setCell _ _ _ _ hk
  refine ⟨h.below.setCell (p := ⟨bn, kn, none⟩) e4 _, (h.nrow.set kn _).congr (fun i _ => ?_), row_keep h.vrow (ho _ (by omega)), row_keep h.mrow (ho _ (by omega)), fun i hi => bytes_keep (h.nb i hi) (ho _ (h.al i hi).1.2.1), fun i hi => bytes_keep (h.vb i hi) (ho _ (h.al i hi).2.2.1), fun i hi => ?_, h.ne⟩
  · by_cases e : i = kn
    · subst e
      rw [if_pos rfl, if_pos (by omega)]
    · rw [if_neg e]
      by_cases e2 : i < kn
      · rw [if_pos e2, if_pos (by omega)]
      · rw [if_neg e2, if_neg (by omega)]
  · rw [Deep.nblk_setCell]
    exact h.al i hi

/-- one more value -/
def upd {α : Type} (f : Nat → α) (k : Nat) (x : α) (i : Nat) : α := if i = k then x else f i
theorem upd_at {α : Type} (f : Nat → α) (k : Nat) (x : α) : upd f k x k = x := if_pos rfl
theorem upd_lt {α : Type} (f : Nat → α) {k i : Nat} (x : α) (h : i < k) : upd f k x i = f i := if_neg (by omega)

theorem L2.setV {W wr : World} {bn bv bm n kn kv km : Nat} {Ns Vs : Nat → ByteArray} {A B C D : Nat → Nat} {fn fv fm : Nat → Value} (h : L2 W wr bn bv bm n kn kv km Ns Vs A B C D fn fv fm) (hkm : km ≤ kv) (r : ByteArray) : L2 W (wr.setCell ⟨bv, kv, none⟩ (.string r)) bn bv bm n kn (kv + 1) km Ns (upd Vs kv r) A B C D fn fv fm := by
  obtain ⟨e1, e2, e3, e4, e5, e6⟩ := h.ne
  have ho : ∀ k, k ≠ bv → (wr.setCell ⟨bv, kv, none⟩ (.string r)).heap[k]? = wr.heap[k]? := fun k hk => Below.heap_setCell _ _ _ _ hk
  refine ⟨h.below.setCell (p := ⟨bv, kv, none⟩) e5 _, row_keep h.nrow (ho _ (by omega)), (h.vrow.set kv _).congr (fun i _ => ?_), (row_keep h.mrow (ho _ (by omega))).congr (fun c hc => ?_), fun i hi => bytes_keep (h.nb i hi) (ho _ (h.al i hi).1.2.2.1), fun i hi => ?_, fun i hi => ?_, h.ne⟩
  · by_cases e : i = kv
    · subst e
      rw [if_pos rfl, if_pos (by omega), upd_at]
    · rw [if_neg e]
      by_cases e2 : i < kv
      · rw [if_pos e2, if_pos (by omega), upd_lt _ _ e2]
      · rw [if_neg e2, if_neg (by omega)]
  · by_cases e : c < km * 2
    · rw [if_pos e, if_pos e, mcell, mcell, upd_lt _ _ (by omega)]
    · rw [if_neg e, if_neg e]
  · rw [upd_lt _ _ (by omega)]
    exact bytes_keep (h.vb i hi) (ho _ (h.al i hi).2.2.2.1)
  · rw [Deep.nblk_setCell]
    exact h.al i hi

theorem L2.setM {W wr : World} {bn bv bm n kn kv km : Nat} {Ns Vs : Nat → ByteArray} {A B C D : Nat → Nat} {fn fv fm : Nat → Value} (h : L2 W wr bn bv bm n kn kv km Ns Vs A B C D fn fv fm) (g1 g2 c1 c2 : Nat)
    (h1 : Lib.Bytes wr g1 0 (Ns km)) (h2 : Lib.Bytes wr g2 0 (Vs km)) (hg1 : g1 < wr.heap.size ∧ g1 ≠ bn ∧ g1 ≠ bv ∧ g1 ≠ bm) (hg2 : g2 < wr.heap.size ∧ g2 ≠ bn ∧ g2 ≠ bv ∧ g2 ≠ bm) :
    L2 W ((wr.setCell ⟨bm, km * 2, none⟩ (.slice (some ⟨g1, 0, none⟩) (Ns km).size c1)).setCell ⟨bm, km * 2 + 1, none⟩ (.slice (some ⟨g2, 0, none⟩) (Vs km).size c2)) bn bv bm n kn kv (km + 1) Ns Vs (upd A km g1) (upd B km g2) (upd C km c1) (upd D km c2) fn fv fm := by
  obtain ⟨e1, e2, e3, e4, e5, e6⟩ := h.ne
  have ho : ∀ k, k ≠ bm → ((wr.setCell ⟨bm, km * 2, none⟩ (.slice (some ⟨g1, 0, none⟩) (Ns km).size c1)).setCell ⟨bm, km * 2 + 1, none⟩ (.slice (some ⟨g2, 0, none⟩) (Vs km).size c2)).heap[k]? = wr.heap[k]? := fun k hk => by
    rw [Below.heap_setCell _ _ _ _ hk, Below.heap_setCell _ _ _ _ hk]
  refine ⟨(h.below.setCell (p := ⟨bm, km * 2, none⟩) e6 _).setCell (p := ⟨bm, km * 2 + 1, none⟩) e6 _, row_keep h.nrow (ho _ (by omega)), row_keep h.vrow (ho _ (by omega)), ((h.mrow.set (km * 2) _).set (km * 2 + 1) _).congr (fun c _ => ?_), fun i hi => ?_, fun i hi => ?_, fun i hi => ?_, h.ne⟩
  · by_cases q1 : c = km * 2 + 1
    · subst q1
      rw [if_pos rfl, if_pos (by omega), mcell, if_neg (by omega), show (km * 2 + 1) / 2 = km by omega, upd_at, upd_at]
    · rw [if_neg q1]
      by_cases q2 : c = km * 2
      · subst q2
        rw [if_pos rfl, if_pos (by omega), mcell, if_pos (by omega), show km * 2 / 2 = km by omega, upd_at, upd_at]
      · rw [if_neg q2]
        by_cases q3 : c < km * 2
        · rw [if_pos q3, if_pos (by omega), mcell, mcell, upd_lt _ _ (by omega), upd_lt _ _ (by omega), upd_lt _ _ (by omega), upd_lt _ _ (by omega)]
        · rw [if_neg q3, if_neg (by omega)]
  · by_cases q : i = km
    · subst q
      rw [upd_at]
      exact bytes_keep h1 (ho _ hg1.2.2.2)
    · rw [upd_lt _ _ (by omega)]
      exact bytes_keep (h.nb i (by omega)) (ho _ (h.al i (by omega)).1.2.2.2)
  · by_cases q : i = km
    · subst q
      rw [upd_at]
      exact bytes_keep h2 (ho _ hg2.2.2.2)
    · rw [upd_lt _ _ (by omega)]
      exact bytes_keep (h.vb i (by omega)) (ho _ (h.al i (by omega)).2.2.2.2)
  · rw [Deep.nblk_setCell, Deep.nblk_setCell]
    by_cases q : i = km
    · subst q
      rw [upd_at, upd_at]
      exact ⟨hg1, hg2⟩
    · rw [upd_lt _ _ (by omega), upd_lt _ _ (by omega)]
      exact h.al i (by omega)
end Go.Proofs.Ybulkdrdk.Parts
