/-
  what is known behind add
-/
import Derived.Test.YbulkdqzcCEnvT
import Derived.Lib.Builder
namespace Go.Proofs.Ybulkdqzc.PartsC
open Go.ChangeShapes Go.WideShapes Go.ChangeAt Go.RowKit
set_option linter.unusedVariables false

theorem en_at {W : World} {g n : Nat} {N : Nat → Nat → Int} (h : EN W g n N) (i j : Nat) (hi : i < n) (hj : j < 10) : W.cell? ⟨g, i * 10 + j, none⟩ = (ncells (N i))[j]? :=
  (h.row _ (by omega)).trans (rowN_get N n i j hi hj)

theorem below_drewN {B : Nat} {W U : World} (h : Below B W U) (n : Nat) : Below B W (U.drewN n) := ⟨h.os, h.tape, h.output, h.size, h.block⟩

theorem BN.cells {W : World} {b : Nat} {x0 x1 x2 x3 x4 x5 x6 x7 x8 x9 : Int} (h : BN W b x0 x1 x2 x3 x4 x5 x6 x7 x8 x9) : W.cell? ⟨b, 0, none⟩ = some (.int .i32 x0) ∧ W.cell? ⟨b, 1, none⟩ = some (.int .i32 x1) ∧ W.cell? ⟨b, 2, none⟩ = some (.int .i32 x2) ∧ W.cell? ⟨b, 3, none⟩ = some (.int .i32 x3) ∧ W.cell? ⟨b, 4, none⟩ = some (.int .i32 x4) ∧
    W.cell? ⟨b, 5, none⟩ = some (.int .i32 x5) ∧ W.cell? ⟨b, 6, none⟩ = some (.int .i32 x6) ∧ W.cell? ⟨b, 7, none⟩ = some (.int .u16 x7) ∧ W.cell? ⟨b, 8, none⟩ = some (.int .u8 x8) ∧ W.cell? ⟨b, 9, none⟩ = some (.int .u8 x9) := by
  have hb := h.heap
  refine ⟨?_, ?_, ?_, ?_, ?_, ?_, ?_, ?_, ?_, ?_⟩ <;> simp [World.cell?, hb]

/-- all that is known behind 'add' -/
structure EF (w W : World) (bl m bs bb nb cb bc tc n2 bM bT bE lo fi g cg : Nat) (S : Nat → Int) (N1 N2 N' : Nat → Nat → Int) (c1 c2 c7 c8 out : Int) : Prop where
  below : Below w.heap.size w W
  ls : ∀ i, i < m → W.cell? ⟨bl, i, none⟩ = some (.int .u8 (S i))
  u8 : ∀ i, i < m → 0 ≤ S i ∧ S i ≤ 255
  pos : 1 ≤ m ∧ m ≤ 1048577
  hnb : nb ≤ 1048577
  hn2 : n2 ≤ 1048576
  st : ∀ r, r ≤ m → W.cell? ⟨bs, r, none⟩ = some (.int .i32 (pre S r))
  base : Nd W bb nb N1
  bcop : Nd W bc nb N1
  tcop : Nd W tc n2 N2
  grown : Nd W g (n2 + 1) N'
  olds : ∀ i, i < n2 → N' i = N2 i
  last : N' n2 = cf lo c1 c2 fi out (-1) (-1) c7 c8 0
  e : W.heap[bE]? = some (nobj lo c1 c2 fi out (-1) (-1) c7 c8 0)
  c0 : W.cell? ⟨bT, 0, none⟩ = some (.pointer (some ⟨bM, 0, none⟩))
  c1 : W.cell? ⟨bT, 1, none⟩ = some (.slice none 0 0)
  c2 : W.cell? ⟨bT, 2, none⟩ = some (.slice (some ⟨bb, 0, none⟩) nb cb)
  c3 : W.cell? ⟨bT, 3, none⟩ = some (.bool false)
  c4 : W.cell? ⟨bT, 4, none⟩ = some (.slice none 0 0)
  c5 : W.cell? ⟨bT, 5, none⟩ = some (.slice (some ⟨g, 0, none⟩) (n2 + 1) cg)
  c6 : W.cell? ⟨bT, 6, none⟩ = some (.slice none 0 0)
  c7 : W.cell? ⟨bT, 7, none⟩ = some (.slice none 0 0)
  c8 : W.cell? ⟨bT, 8, none⟩ = some (.slice none 0 0)
  c9 : W.cell? ⟨bT, 9, none⟩ = some (.int .i64 0)
  m1 : W.cell? ⟨bM, 1, none⟩ = some (.slice (some ⟨bs, 0, none⟩) (m + 1) (m + 1))

theorem EF.drewN {w W : World} {bl m bs bb nb cb bc tc n2 bM bT bE lo fi g cg : Nat} {S : Nat → Int} {N1 N2 N' : Nat → Nat → Int} {c1 c2 c7 c8 out : Int} (h : EF w W bl m bs bb nb cb bc tc n2 bM bT bE lo fi g cg S N1 N2 N' c1 c2 c7 c8 out) (q : Nat) :
    EF w (W.drewN q) bl m bs bb nb cb bc tc n2 bM bT bE lo fi g cg S N1 N2 N' c1 c2 c7 c8 out :=
  ⟨below_drewN h.below q, h.ls, h.u8, h.pos, h.hnb, h.hn2, h.st, h.base, h.bcop, h.tcop, h.grown, h.olds, h.last, h.e, h.c0, h.c1, h.c2, h.c3, h.c4, h.c5, h.c6, h.c7, h.c8, h.c9, h.m1⟩

theorem info45 : (Yba.prog.info? 45).map (fun i => (i.size)) = some 17 := by kernel_rfl

theorem nd_at {W : World} {g n : Nat} {N : Nat → Nat → Int} (h : Nd W g n N) (i : Nat) (hi : i < n) : W.cell? ⟨g, i * 10, none⟩ = some (.int .i32 (N i 0)) ∧ W.cell? ⟨g, i * 10 + 1, none⟩ = some (.int .i32 (N i 1)) ∧ W.cell? ⟨g, i * 10 + 2, none⟩ = some (.int .i32 (N i 2)) ∧ W.cell? ⟨g, i * 10 + 3, none⟩ = some (.int .i32 (N i 3)) ∧ W.cell? ⟨g, i * 10 + 4, none⟩ = some (.int .i32 (N i 4)) ∧
    W.cell? ⟨g, i * 10 + 5, none⟩ = some (.int .i32 (N i 5)) ∧ W.cell? ⟨g, i * 10 + 6, none⟩ = some (.int .i32 (N i 6)) ∧ W.cell? ⟨g, i * 10 + 7, none⟩ = some (.int .u16 (N i 7)) ∧ W.cell? ⟨g, i * 10 + 8, none⟩ = some (.int .u8 (N i 8)) ∧ W.cell? ⟨g, i * 10 + 9, none⟩ = some (.int .u8 (N i 9)) := by
  have e : ∀ j, j < 10 → W.cell? ⟨g, i * 10 + j, none⟩ = (ncells (N i))[j]? := fun j hj => (h _ (by omega)).trans (rowN_get N n i j hi hj)
  exact ⟨e 0 (by omega), e 1 (by omega), e 2 (by omega), e 3 (by omega), e 4 (by omega), e 5 (by omega), e 6 (by omega), e 7 (by omega), e 8 (by omega), e 9 (by omega)⟩

end Go.Proofs.Ybulkdqzc.PartsC
