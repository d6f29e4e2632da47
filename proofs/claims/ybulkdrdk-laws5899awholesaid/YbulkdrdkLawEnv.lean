/-
  What the walk of the law carries.
-/
import Derived.Test.YbulkdrdkAt
namespace Go.Proofs.Ybulkdrdk.Parts
open Go.ChangeShapes Go.WideShapes Go.ChangeAt Go.RowKit
set_option linter.unusedVariables false

def LawPost (w : World) (e : Ending) (w' : World) : Prop := e = .returned (.bool true) ∧ Below w.heap.size w w'

/-- what the reading of the end needs -/
structure ER (w W : World) (bn bv bm n bF : Nat) (Ns Vs : Nat → ByteArray) (A B C D : Nat → Nat) (id op : ByteArray) (tm : Int) (wm wi : Bool) : Prop where
  below : Below w.heap.size w W
  names : ∀ i, i < n → W.cell? ⟨bn, i, none⟩ = some (.string (Ns i))
  vals : ∀ i, i < n → W.cell? ⟨bv, i, none⟩ = some (.string (Vs i))
  mem : Mem W bm n A B C D Ns Vs
  fld : Fld W bF (.slice (some ⟨bm, 0, none⟩) n n) id op tm wm wi
  hn : (n : Int) ≤ 140737488355328

theorem str_eq (a : ByteArray) : (a.toList == a.toList) = true := by simp

end Go.Proofs.Ybulkdrdk.Parts
