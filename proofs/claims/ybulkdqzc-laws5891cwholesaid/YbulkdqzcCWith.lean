/-
  'withFail' by its contract.
-/
import Derived.Test.YbulkdqzcCParts
namespace Go.Proofs.Ybulkdqzc.PartsC
open Go.ChangeShapes Go.WideShapes Go.ChangeAt Go.RowKit

/-- what is known of the table and its matcher -/
structure Tab (w : World) (bT bM bs m : Nat) (T : Nat → Int) : Prop where
  c0 : w.cell? ⟨bT, 0, none⟩ = some (.pointer (some ⟨bM, 0, none⟩))
  m1 : w.cell? ⟨bM, 1, none⟩ = some (.slice (some ⟨bs, 0, none⟩) (m + 1) (m + 1))
  st : ∀ r, r ≤ m → w.cell? ⟨bs, r, none⟩ = some (.int .i32 (T r))
  mono : ∀ r, r < m → 0 ≤ T r ∧ T r ≤ T (r + 1) ∧ T (r + 1) ≤ 1073741824
  lim : m ≤ 1048577
  lt : bT < w.heap.size ∧ bM < w.heap.size ∧ bs < w.heap.size

def WithPost (w : World) (x0 x1 x2 x3 x4 x5 x6 x7 x8 x9 : Int) (e : Ending) (w' : World) : Prop := e = .returned (nv x0 x1 x2 x3 x4 x5 x6 x7 x8 x9) ∧ Below w.heap.size w w'

set_option maxHeartbeats 1600000 in
theorem with_any (bT bM bs m lo : Nat) (T : Nat → Int) (x1 x2 x3 x4 x5 x6 x7 x8 x9 n f fo out : Int) (pb po : Nat) (w : World) (hT : Tab w bT bM bs m T) (hlo : lo < m) (hout : Hid (out = if T (lo + 1) - T lo = x2 then n else fo))
    (hptr : ∀ W : World, (∀ k, k < w.heap.size → W.heap[k]? = w.heap[k]?) → Calls Yba.prog 12 #[.pointer (some ⟨bT, 0, none⟩), .int .i32 f] W fun e w' => e = .returned (.pointer (some ⟨pb, po, none⟩)) ∧ W = w')
    (hpo : w.cell? ⟨pb, po + 4, none⟩ = some (.int .i32 fo)) :
    Calls Yba.prog 11 #[.pointer (some ⟨bT, 0, none⟩), nv lo x1 x2 x3 x4 x5 x6 x7 x8 x9, .int .i32 n, .int .i32 f] w
      (WithPost w lo x1 x2 f out x5 x6 x7 x8 x9) := by
  have hpb : pb < w.heap.size := World.block_lt_of_cell? _ _ hpo
  obtain ⟨l1, l2, l3⟩ := hT.lt
  have HP : Hid (∀ W : World, (∀ k, k < w.heap.size → W.heap[k]? = w.heap[k]?) → Calls Yba.prog 12 #[.pointer (some ⟨bT, 0, none⟩), .int .i32 f] W fun e w' => e = .returned (.pointer (some ⟨pb, po, none⟩)) ∧ W = w') := hptr
  clear hptr
  have HL : Hid (∀ W : World, (∀ k, k < w.heap.size → W.heap[k]? = w.heap[k]?) → Calls Yba.prog 13 #[.pointer (some ⟨bM, 0, none⟩), .int .i32 (lo : Int)] W fun e w' => e = .returned (.int .i32 (T (lo + 1) - T lo)) ∧ ∃ nq, w' = W.drewN nq) := by
    intro W hW
    have hc : ∀ b o, b < w.heap.size → W.cell? ⟨b, o, none⟩ = w.cell? ⟨b, o, none⟩ := fun b o hb => World.cell?_of_block (w := w) (a := ⟨b, o, none⟩) (hW b hb)
    obtain ⟨t1, t2, t3⟩ := hT.mono lo hlo
    exact length_any bM bs (m + 1) (m + 1) lo (T lo) (T (lo + 1)) W ((hc _ _ l2).trans hT.m1) (by omega) (by have := hT.lim; omega) ((hc _ _ l3).trans (hT.st lo (by omega))) ((hc _ _ l3).trans (hT.st (lo + 1) (by omega))) t1 t2 t3
  have hk2 : ∀ (o1 o2 : Obj) (k : Nat), k < w.heap.size → ((w.alloc o1).alloc o2).drew.heap[k]? = w.heap[k]? := fun o1 o2 k hk => by
    show ((w.alloc o1).alloc o2).heap[k]? = _
    rw [Below.heap_alloc _ _ _ (by simp; omega), Below.heap_alloc _ _ _ hk]
  have HB : Hid (∀ o1 o2 nq, Below w.heap.size w (((w.alloc o1).alloc o2).drewN nq)) := fun o1 o2 nq => (Joins.below_alloc2 w o1 o2).trans (Joins.below_draws _ _ nq)
  have hc0 := hT.c0
  clear hT
  have h := hout.out
  clear hout
  by_cases hq0 : T (lo + 1) - T lo = x2
  · rw [if_pos hq0] at h
    subst h
    have hq : (T (lo + 1) - T lo == x2) = true := by simpa using hq0
    clear hq0
    go_enter Yba.func11, Yba.ntmps11
    go_wp2
    go_region_with (go_at_call 12; refine (HP.out _ ?_).mono ?_; exact hk2 _ _; rintro e w' ⟨rfl, rfl⟩)
    all_goals
      go_wp2_with fail
      go_quiet ((go_at_call 13; refine quiet_more (HL.out _ ?_); exact hk2 _ _))
      go_wp2_with fail
      refine bodyPost_ret (v := nv lo x1 x2 f out x5 x6 x7 x8 x9) (by simp [results, Yba.results11, go_sem]) rfl ⟨rfl, ?_⟩
      iterate 10 (refine Below.setCell ?_ (Nat.le_succ _) _)
      refine Below.setCell (p := ⟨w.heap.size, 4, none⟩) ?_ (Nat.le_refl _) _
      exact HB.out _ _ _
  · rw [if_neg hq0] at h
    subst h
    have hq : (T (lo + 1) - T lo == x2) = false := by simpa using hq0
    clear hq0
    go_enter Yba.func11, Yba.ntmps11
    go_wp2
    go_region_with (go_at_call 12; refine (HP.out _ ?_).mono ?_; exact hk2 _ _; rintro e w' ⟨rfl, rfl⟩)
    all_goals
      go_wp2_with fail
      go_quiet ((go_at_call 13; refine quiet_more (HL.out _ ?_); exact hk2 _ _))
      go_wp2_with fail
      refine bodyPost_ret (v := nv lo x1 x2 f out x5 x6 x7 x8 x9) (by simp [results, Yba.results11, go_sem]) rfl ⟨rfl, ?_⟩
      iterate 10 (refine Below.setCell ?_ (Nat.le_succ _) _)
      exact HB.out _ _ _
end Go.Proofs.Ybulkdqzc.PartsC
