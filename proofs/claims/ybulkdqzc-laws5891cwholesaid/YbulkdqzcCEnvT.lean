/-
  the table as it is carried
-/
import Derived.Test.YbulkdqzcCEnv
namespace Go.Proofs.Ybulkdqzc.PartsC
open Go.ChangeShapes Go.WideShapes Go.ChangeAt Go.RowKit
set_option linter.unusedVariables false

/-- the table and its matcher -/
structure ET (W : World) (bT bM bs m bb nb cb bt n2 : Nat) : Prop where
  c0 : W.cell? ⟨bT, 0, none⟩ = some (.pointer (some ⟨bM, 0, none⟩))
  c1 : W.cell? ⟨bT, 1, none⟩ = some (.slice none 0 0)
  c2 : W.cell? ⟨bT, 2, none⟩ = some (.slice (some ⟨bb, 0, none⟩) nb cb)
  c3 : W.cell? ⟨bT, 3, none⟩ = some (.bool false)
  c4 : W.cell? ⟨bT, 4, none⟩ = some (.slice none 0 0)
  c5 : W.cell? ⟨bT, 5, none⟩ = some (.slice (some ⟨bt, 0, none⟩) n2 n2)
  c6 : W.cell? ⟨bT, 6, none⟩ = some (.slice none 0 0)
  c7 : W.cell? ⟨bT, 7, none⟩ = some (.slice none 0 0)
  c8 : W.cell? ⟨bT, 8, none⟩ = some (.slice none 0 0)
  c9 : W.cell? ⟨bT, 9, none⟩ = some (.int .i64 0)
  m1 : W.cell? ⟨bM, 1, none⟩ = some (.slice (some ⟨bs, 0, none⟩) (m + 1) (m + 1))
  fz : W.frozen? ⟨bT, 5, none⟩ = false
  lt : bT < W.heap.size ∧ bM < W.heap.size

theorem frozen_of_block {W W' : World} {b o : Nat} (h : W'.heap[b]? = W.heap[b]?) : W'.frozen? ⟨b, o, none⟩ = W.frozen? ⟨b, o, none⟩ := by
  simp only [World.frozen?, h]

theorem ET.mono {W W' : World} {bT bM bs m bb nb cb bt n2 : Nat} (h : ET W bT bM bs m bb nb cb bt n2) (hb : Below W.heap.size W W') : ET W' bT bM bs m bb nb cb bt n2 := by
  have z := hb.size
  obtain ⟨z1, z2⟩ := h.lt
  have e := fun o => hb.cell (p := ⟨bT, o, none⟩) z1
  exact ⟨(e _).trans h.c0, (e _).trans h.c1, (e _).trans h.c2, (e _).trans h.c3, (e _).trans h.c4, (e _).trans h.c5, (e _).trans h.c6, (e _).trans h.c7, (e _).trans h.c8, (e _).trans h.c9, (hb.cell (p := ⟨bM, 1, none⟩) z2).trans h.m1, (frozen_of_block (hb.block _ z1)).trans h.fz, by omega, by omega⟩

theorem et_laid (W : World) (bs m bb nb cb bt n2 : Nat) (o1 o2 : Obj) (cs : Array Value) (h1 : o1 = .cells cs 45) (hm : cs[1]? = some (.slice (some ⟨bs, 0, none⟩) (m + 1) (m + 1)))
    (h2 : o2 = .cells #[.pointer (some ⟨W.heap.size, 0, none⟩), .slice none 0 0, .slice (some ⟨bb, 0, none⟩) nb cb, .bool false, .slice none 0 0, .slice (some ⟨bt, 0, none⟩) n2 n2, .slice none 0 0, .slice none 0 0, .slice none 0 0, .int .i64 0] 48) :
    ET ((W.alloc o1).alloc o2) (W.heap.size + 1) W.heap.size bs m bb nb cb bt n2 := by
  have z : (W.alloc o1).heap.size = W.heap.size + 1 := by simp
  have hT : ((W.alloc o1).alloc o2).heap[W.heap.size + 1]? = some o2 := by
    rw [← z]; exact Deep.blk_alloc_new _ _
  have hM : ((W.alloc o1).alloc o2).heap[W.heap.size]? = some o1 := by
    rw [Below.heap_alloc _ _ _ (by simp)]; exact Deep.blk_alloc_new _ _
  have hz : ((W.alloc o1).alloc o2).heap.size = W.heap.size + 2 := by simp
  subst h1 h2
  generalize (W.alloc _).alloc _ = V at hT hM hz ⊢
  refine ⟨?_, ?_, ?_, ?_, ?_, ?_, ?_, ?_, ?_, ?_, ?_, ?_, by omega, by omega⟩
  · simp [World.cell?, hT]
  · simp [World.cell?, hT]
  · simp [World.cell?, hT]
  · simp [World.cell?, hT]
  · simp [World.cell?, hT]
  · simp [World.cell?, hT]
  · simp [World.cell?, hT]
  · simp [World.cell?, hT]
  · simp [World.cell?, hT]
  · simp [World.cell?, hT]
  · simp [World.cell?, hM, hm]
  · simp [World.frozen?, hT]

theorem rem_nat {f : Int} {n : Nat} (h0 : 0 ≤ f) (hn : 1 ≤ n) (hb : n ≤ 2097153) : ∃ k : Nat, k < n ∧ wrap32 (f % (n : Int)) = (k : Int) := by
  have h1 := Int.emod_nonneg f (b := (n : Int)) (by omega)
  have h2 := Int.emod_lt_of_pos f (b := (n : Int)) (by omega)
  refine ⟨(f % (n : Int)).toNat, by omega, ?_⟩
  unfold wrap32
  omega

theorem laid3 (W : World) (o1 o2 o3 : Obj) : Below W.heap.size W (((W.alloc o1).alloc o2).alloc o3) ∧ (((W.alloc o1).alloc o2).alloc o3).heap[W.heap.size + 1 + 1]? = some o3 ∧ (((W.alloc o1).alloc o2).alloc o3).heap.size = W.heap.size + 3 := by
  refine ⟨(((Below.refl _ _).alloc (Nat.le_refl _) _).alloc (by simp) _).alloc (by simp; omega) _, ?_, by simp⟩
  have z : ((W.alloc o1).alloc o2).heap.size = W.heap.size + 1 + 1 := by simp
  rw [← z]
  exact Deep.blk_alloc_new _ _

/-- a node's box -/
structure BN (W : World) (b : Nat) (x0 x1 x2 x3 x4 x5 x6 x7 x8 x9 : Int) : Prop where
  heap : W.heap[b]? = some (nobj x0 x1 x2 x3 x4 x5 x6 x7 x8 x9)
  lt : b < W.heap.size

theorem BN.mono {W W' : World} {b : Nat} {x0 x1 x2 x3 x4 x5 x6 x7 x8 x9 : Int} (h : BN W b x0 x1 x2 x3 x4 x5 x6 x7 x8 x9) (hb : Below W.heap.size W W') : BN W' b x0 x1 x2 x3 x4 x5 x6 x7 x8 x9 := by
  have z := hb.size
  have z2 := h.lt
  exact ⟨(hb.block _ z2).trans h.heap, by omega⟩

end Go.Proofs.Ybulkdqzc.PartsC
