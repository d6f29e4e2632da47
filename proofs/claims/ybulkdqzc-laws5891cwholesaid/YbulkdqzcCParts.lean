/-
  Parts for 'LawS5891CWhole': contracts of the small functions.
-/
import Derived.Test.YbulkdqzcRows
import Derived.WalkKit
import Derived.ProofKit
import Derived.OpenShut
import Derived.Outline
import Derived.WalkSpells
import Derived.WalkLawsBesides
import Derived.Deep.OwnRows
import Derived.Deep.QuietTactic
import Derived.Deep.RegionWith
import Derived.BigQuiet
import Derived.Laws.CopyOwn
import Derived.Deep.RegionLawGrows
import Derived.Lib.SmallJoins
namespace Go.Proofs.Ybulkdqzc.PartsC
open Go.ChangeShapes Go.WideShapes Go.ChangeAt Go.RowKit

theorem quiet_more {P : Program} {f : FuncId} {args : Array Value} {w : World} {q n : Nat} {v : Value}
    (h : Calls P f args (w.drewN (q + n)) fun e w' => e = .returned v ∧ ∃ m, w' = (w.drewN (q + n)).drewN m) : Calls P f args (w.drewN (q + n)) fun e w'' => e = .returned v ∧ ∃ m, w'' = w.drewN (q + m) :=
  h.mono fun _ _ ⟨he, m, hm⟩ => ⟨he, n + m, by rw [hm, World.drewN_drewN, Nat.add_assoc]⟩

/-- a node as a value: ten numbers -/
abbrev nv (x0 x1 x2 x3 x4 x5 x6 x7 x8 x9 : Int) : Value := .agg #[.int .i32 x0, .int .i32 x1, .int .i32 x2, .int .i32 x3, .int .i32 x4, .int .i32 x5, .int .i32 x6, .int .u16 x7, .int .u8 x8, .int .u8 x9]
/-- the same as it comes in: the first is an uint32 -/
abbrev zv (x0 x1 x2 x3 x4 x5 x6 x7 x8 x9 : Int) : Value := .agg #[.int .u32 x0, .int .i32 x1, .int .i32 x2, .int .i32 x3, .int .i32 x4, .int .i32 x5, .int .i32 x6, .int .u16 x7, .int .u8 x8, .int .u8 x9]
abbrev nobj (x0 x1 x2 x3 x4 x5 x6 x7 x8 x9 : Int) : Obj := .cells #[.int .i32 x0, .int .i32 x1, .int .i32 x2, .int .i32 x3, .int .i32 x4, .int .i32 x5, .int .i32 x6, .int .u16 x7, .int .u8 x8, .int .u8 x9] 35
abbrev zobj (x0 x1 x2 x3 x4 x5 x6 x7 x8 x9 : Int) : Obj := .cells #[.int .u32 x0, .int .i32 x1, .int .i32 x2, .int .i32 x3, .int .i32 x4, .int .i32 x5, .int .i32 x6, .int .u16 x7, .int .u8 x8, .int .u8 x9] 31

theorem cnode_any (x0 x1 x2 x3 x4 x5 x6 x7 x8 x9 : Int) (w : World) :
    Calls Yba.prog 8 #[zv x0 x1 x2 x3 x4 x5 x6 x7 x8 x9] w fun e w' => e = .returned (nv (wrap32 x0) x1 x2 x3 x4 x5 x6 x7 x8 x9) ∧
      w' = (w.alloc (zobj x0 x1 x2 x3 x4 x5 x6 x7 x8 x9)).alloc (nobj (wrap32 x0) x1 x2 x3 x4 x5 x6 x7 x8 x9) := by
  go_enter Yba.func8, Yba.ntmps8
  go_wp2
  exact bodyPost_ret (v := nv (wrap32 x0) x1 x2 x3 x4 x5 x6 x7 x8 x9) (by simp [results, Yba.results8, go_sem]) rfl ⟨rfl, rfl⟩

theorem count_any (bT : Nat) (ab an : Option Addr) (nb cb nt ct : Nat) (w : World) (h2 : w.cell? ⟨bT, 2, none⟩ = some (.slice ab nb cb)) (h5 : w.cell? ⟨bT, 5, none⟩ = some (.slice an nt ct)) (hb : nb ≤ 1048577) (ht : nt ≤ 1048577) :
    Calls Yba.prog 10 #[.pointer (some ⟨bT, 0, none⟩)] w fun e w' => e = .returned (.int .i32 ((nb : Int) + (nt : Int))) ∧ ∃ nq, w' = w.drewN nq := by
  go_enter Yba.func10, Yba.ntmps10
  go_wp2
  go_quiet (fail)
  go_wp2
  go_ret
  exact ⟨rfl, _, rfl⟩

theorem ptr_base (bT bb nb cb v : Nat) (w : World) (h2 : w.cell? ⟨bT, 2, none⟩ = some (.slice (some ⟨bb, 0, none⟩) nb cb)) (hb : nb ≤ 1048577) (hv : v < nb) :
    Calls Yba.prog 12 #[.pointer (some ⟨bT, 0, none⟩), .int .i32 (v : Int)] w fun e w' => e = .returned (.pointer (some ⟨bb, v * 10, none⟩)) ∧ w = w' := by
  go_enter Yba.func12, Yba.ntmps12
  go_wp2
  go_ret
  exact ⟨rfl, rfl⟩

theorem ptr_nodes (bT : Nat) (ab : Option Addr) (nb cb bt nt ct v : Nat) (w : World) (h2 : w.cell? ⟨bT, 2, none⟩ = some (.slice ab nb cb)) (h5 : w.cell? ⟨bT, 5, none⟩ = some (.slice (some ⟨bt, 0, none⟩) nt ct)) (hb : nb ≤ 1048577) (ht : nt ≤ 1048577) (hv : nb ≤ v) (hv2 : v < nb + nt) :
    Calls Yba.prog 12 #[.pointer (some ⟨bT, 0, none⟩), .int .i32 (v : Int)] w fun e w' => e = .returned (.pointer (some ⟨bt, (v - nb) * 10, none⟩)) ∧ w = w' := by
  go_enter Yba.func12, Yba.ntmps12
  go_wp2
  go_ret
  exact ⟨rfl, rfl⟩

theorem length_any (bM bs m c r : Nat) (x y : Int) (w : World) (h1 : w.cell? ⟨bM, 1, none⟩ = some (.slice (some ⟨bs, 0, none⟩) m c)) (hr : r + 1 < m) (hm : m ≤ 1048578) (hx : w.cell? ⟨bs, r, none⟩ = some (.int .i32 x)) (hy : w.cell? ⟨bs, r + 1, none⟩ = some (.int .i32 y))
    (b1 : 0 ≤ x) (b2 : x ≤ y) (b3 : y ≤ 1073741824) :
    Calls Yba.prog 13 #[.pointer (some ⟨bM, 0, none⟩), .int .i32 (r : Int)] w fun e w' => e = .returned (.int .i32 (y - x)) ∧ ∃ nq, w' = w.drewN nq := by
  have hi : (r : Int) + 1 < (m : Int) := by omega
  go_enter Yba.func13, Yba.ntmps13
  go_wp2
  go_quiet (fail)
  go_wp2
  go_ret
  exact ⟨rfl, _, rfl⟩

end Go.Proofs.Ybulkdqzc.PartsC
