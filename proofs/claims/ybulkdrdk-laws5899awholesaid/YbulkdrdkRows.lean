/-
  No cell of these rows narrows 'for every input' (looked for: loops, veiled, ifaces, maps, wideKeys, modest, calm, conditions, laid).
  DERIVED. THE GIVEN ROWS OF THIS SEAT. 2 by the template 'for every input the law returns true; each argument reads behind the call as it read before'; 0 by the template 'total and deterministic' (their statements: YbulkdrdkTotals.lean).
  GIVEN WITH THE SEED: the statements are not yours to turn. If you find one false, say at which input.
  Laid BY PROGRAM, IN A SANDBOX (cutbox-rows.mjs): the forced cells as the released guide's own fill.sh prints them over the translation c29c7ff56a1a662d… (all of the seat's roots in one cut). By AI agents, Wed Nov 11 2026. No macro, syntax, notation, axiom, sorry.
-/
import Derived.Test.YbulkdrdkChecked
import GoSem.Claim
import GoSem.ClaimJoined
import GoSem.ClaimMapViews
import Derived.JoinedTies
import Derived.KernelRfl
namespace Go.Proofs.Ybulkdrdk
/- THE CELL 'sum', in the pinned program and in every row, IS THE sha256 OF THE DUMP (.gsa) THAT YbulkdrdkProg.lean LOADS. Nothing in Lean hashes anything: it is a label: what it is worth is what the hold of that sum in a sandbox is worth. -/
noncomputable def Yba.pinned : Pinned := { name := "ybulkdrdk", sum := "c29c7ff56a1a662defc0234cf3a029577d1e772f1cfef836182e1ddc7fb8f050", checked := Yba.checked }
namespace Rows
def none {H : Type} : Left H := { results := [], args := [] }

/-- 'hedgemint.LawS5899AWhole': WHATEVER THE INPUT: true; the input reads as it did. -/
def lawS5899AWholeSpec : ChangeSpec := { name := "lawS5899AWhole", fn := fun _ => fun
  | [d1, d2, d3, d4, d5, d6, d7, d8, d9] => { results := [.lit (.bool true)], args := [d1, d2, d3, d4, d5, d6, d7, d8, d9] }
  | _ => none }
def lawS5899AWholeRow : OpenClaim := { program := "ybulkdrdk", sum := "c29c7ff56a1a662defc0234cf3a029577d1e772f1cfef836182e1ddc7fb8f050", func := "example.com/hedgemint/hedgemint.LawS5899AWhole", spec := "lawS5899AWhole", plainKeys := false, apart := false }
def LawS5899AWholeSaid : Prop := lawS5899AWholeRow.holds Yba.pinned (OpenSpec.ofChange lawS5899AWholeSpec)

/-- ITS FALSE NEIGHBOUR: 'it returns false'. Refute it at one input. -/
def lawS5899AWholeWrong : ChangeSpec := { name := "lawS5899AWhole", fn := fun _ => fun
  | [d1, d2, d3, d4, d5, d6, d7, d8, d9] => { results := [.lit (.bool false)], args := [d1, d2, d3, d4, d5, d6, d7, d8, d9] }
  | _ => none }
def LawS5899AWholeWrongFalsely : Prop := lawS5899AWholeRow.holds Yba.pinned (OpenSpec.ofChange lawS5899AWholeWrong)

/-- 'hedgemint.LawS5899CWhole': WHATEVER THE INPUT: true; the input reads as it did. -/
def lawS5899CWholeSpec : ChangeSpec := { name := "lawS5899CWhole", fn := fun _ => fun
  | [d1, d2] => { results := [.lit (.bool true)], args := [d1, d2] }
  | _ => none }
def lawS5899CWholeRow : OpenClaim := { program := "ybulkdrdk", sum := "c29c7ff56a1a662defc0234cf3a029577d1e772f1cfef836182e1ddc7fb8f050", func := "example.com/hedgemint/hedgemint.LawS5899CWhole", spec := "lawS5899CWhole", inPlace := ["internal/bytealg.abigen_runtime_cmpstring"], unfollowed := true, recurses := true, plainKeys := false, apart := false }
def LawS5899CWholeSaid : Prop := lawS5899CWholeRow.holds Yba.pinned (OpenSpec.ofChange lawS5899CWholeSpec)

/-- ITS FALSE NEIGHBOUR: 'it returns false'. Refute it at one input. -/
def lawS5899CWholeWrong : ChangeSpec := { name := "lawS5899CWhole", fn := fun _ => fun
  | [d1, d2] => { results := [.lit (.bool false)], args := [d1, d2] }
  | _ => none }
def LawS5899CWholeWrongFalsely : Prop := lawS5899CWholeRow.holds Yba.pinned (OpenSpec.ofChange lawS5899CWholeWrong)

end Rows
end Go.Proofs.Ybulkdrdk
