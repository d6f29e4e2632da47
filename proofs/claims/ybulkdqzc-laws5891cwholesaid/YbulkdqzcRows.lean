/-
  No cell of these rows narrows 'for every input' (looked for: loops, veiled, ifaces, maps, wideKeys, modest, calm, conditions, laid).
  DERIVED. THE GIVEN ROWS OF THIS SEAT. 3 by the template 'for every input the law returns true; each argument reads behind the call as it read before'; 0 by the template 'total and deterministic' (their statements: YbulkdqzcTotals.lean).
  GIVEN WITH THE SEED: the statements are not yours to turn. If you find one false, say at which input.
  Laid BY PROGRAM, IN A SANDBOX (cutbox-rows.mjs): the forced cells as the released guide's own fill.sh prints them over the translation c534d663aac9376c… (all of the seat's roots in one cut). By AI agents, Wed Nov 11 2026. No macro, syntax, notation, axiom, sorry.
-/
import Derived.Test.YbulkdqzcChecked
import GoSem.Claim
import GoSem.ClaimJoined
import GoSem.ClaimMapViews
import Derived.JoinedTies
import Derived.KernelRfl
namespace Go.Proofs.Ybulkdqzc
/- THE CELL 'sum', in the pinned program and in every row, IS THE sha256 OF THE DUMP (.gsa) THAT YbulkdqzcProg.lean LOADS. Nothing in Lean hashes anything: it is a label: what it is worth is what the hold of that sum in a sandbox is worth. -/
noncomputable def Yba.pinned : Pinned := { name := "ybulkdqzc", sum := "c534d663aac9376c7528e9f7499575b8d93f12384328ee045f47d522c42eba90", checked := Yba.checked }
namespace Rows
def none {H : Type} : Left H := { results := [], args := [] }

/-- 'signature.LawS5891BWhole': WHATEVER THE INPUT: true; the input reads as it did. -/
def lawS5891BWholeSpec : ChangeSpec := { name := "lawS5891BWhole", fn := fun _ => fun
  | [d1, d2, d3, d4] => { results := [.lit (.bool true)], args := [d1, d2, d3, d4] }
  | _ => none }
def lawS5891BWholeRow : OpenClaim := { program := "ybulkdqzc", sum := "c534d663aac9376c7528e9f7499575b8d93f12384328ee045f47d522c42eba90", func := "example.com/sigweave/sigweave/internal/signature.LawS5891BWhole", spec := "lawS5891BWhole", apart := false }
def LawS5891BWholeSaid : Prop := lawS5891BWholeRow.holds Yba.pinned (OpenSpec.ofChange lawS5891BWholeSpec)

/-- ITS FALSE NEIGHBOUR: 'it returns false'. Refute it at one input. -/
def lawS5891BWholeWrong : ChangeSpec := { name := "lawS5891BWhole", fn := fun _ => fun
  | [d1, d2, d3, d4] => { results := [.lit (.bool false)], args := [d1, d2, d3, d4] }
  | _ => none }
def LawS5891BWholeWrongFalsely : Prop := lawS5891BWholeRow.holds Yba.pinned (OpenSpec.ofChange lawS5891BWholeWrong)

/-- 'signature.LawS5891BStrict': WHATEVER THE INPUT: true; the input reads as it did. -/
def lawS5891BStrictSpec : ChangeSpec := { name := "lawS5891BStrict", fn := fun _ => fun
  | [d1, d2, d3, d4] => { results := [.lit (.bool true)], args := [d1, d2, d3, d4] }
  | _ => none }
def lawS5891BStrictRow : OpenClaim := { program := "ybulkdqzc", sum := "c534d663aac9376c7528e9f7499575b8d93f12384328ee045f47d522c42eba90", func := "example.com/sigweave/sigweave/internal/signature.LawS5891BStrict", spec := "lawS5891BStrict", apart := false }
def LawS5891BStrictSaid : Prop := lawS5891BStrictRow.holds Yba.pinned (OpenSpec.ofChange lawS5891BStrictSpec)

/-- ITS FALSE NEIGHBOUR: 'it returns false'. Refute it at one input. -/
def lawS5891BStrictWrong : ChangeSpec := { name := "lawS5891BStrict", fn := fun _ => fun
  | [d1, d2, d3, d4] => { results := [.lit (.bool false)], args := [d1, d2, d3, d4] }
  | _ => none }
def LawS5891BStrictWrongFalsely : Prop := lawS5891BStrictRow.holds Yba.pinned (OpenSpec.ofChange lawS5891BStrictWrong)

/-- 'match.LawS5891CWhole': WHATEVER THE INPUT: true; the input reads as it did. -/
def lawS5891CWholeSpec : ChangeSpec := { name := "lawS5891CWhole", fn := fun _ => fun
  | [d1, d2, d3, d4, d5] => { results := [.lit (.bool true)], args := [d1, d2, d3, d4, d5] }
  | _ => none }
def lawS5891CWholeRow : OpenClaim := { program := "ybulkdqzc", sum := "c534d663aac9376c7528e9f7499575b8d93f12384328ee045f47d522c42eba90", func := "example.com/sigweave/sigweave/internal/match.LawS5891CWhole", spec := "lawS5891CWhole", apart := false }
def LawS5891CWholeSaid : Prop := lawS5891CWholeRow.holds Yba.pinned (OpenSpec.ofChange lawS5891CWholeSpec)

/-- ITS FALSE NEIGHBOUR: 'it returns false'. Refute it at one input. -/
def lawS5891CWholeWrong : ChangeSpec := { name := "lawS5891CWhole", fn := fun _ => fun
  | [d1, d2, d3, d4, d5] => { results := [.lit (.bool false)], args := [d1, d2, d3, d4, d5] }
  | _ => none }
def LawS5891CWholeWrongFalsely : Prop := lawS5891CWholeRow.holds Yba.pinned (OpenSpec.ofChange lawS5891CWholeWrong)

end Rows
end Go.Proofs.Ybulkdqzc
