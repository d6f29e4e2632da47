/-
  No cell of these rows narrows 'for every input' (looked for: loops, veiled, ifaces, maps, wideKeys, modest, calm, conditions, laid).
  DERIVED. THE GIVEN ROWS OF THIS SEAT. 1 by the template 'for every input the law returns true; each argument reads behind the call as it read before'; 0 by the template 'total and deterministic' (their statements: YbulkdrbgTotals.lean).
  GIVEN WITH THE SEED: the statements are not yours to turn. If you find one false, say at which input.
  Laid BY PROGRAM, IN A SANDBOX (cutbox-rows.mjs): the forced cells as the released guide's own fill.sh prints them over the translation ac45fde0222f6d47… (all of the seat's roots in one cut). By AI agents, Wed Nov 11 2026. No macro, syntax, notation, axiom, sorry.
-/
import Derived.Test.YbulkdrbgChecked
import GoSem.Claim
import GoSem.ClaimJoined
import GoSem.ClaimMapViews
import Derived.JoinedTies
import Derived.KernelRfl
namespace Go.Proofs.Ybulkdrbg
/- THE CELL 'sum', in the pinned program and in every row, IS THE sha256 OF THE DUMP (.gsa) THAT YbulkdrbgProg.lean LOADS. Nothing in Lean hashes anything: it is a label: what it is worth is what the hold of that sum in a sandbox is worth. -/
noncomputable def Yba.pinned : Pinned := { name := "ybulkdrbg", sum := "ac45fde0222f6d472311799db4730e49ad99c40fe0b24a23edb14f8bdda7316a", checked := Yba.checked }
namespace Rows
def none {H : Type} : Left H := { results := [], args := [] }

/-- 'tiers-of-config.LawS5895AWhole': WHATEVER THE INPUT: true; the input reads as it did. -/
def lawS5895AWholeSpec : ChangeSpec := { name := "lawS5895AWhole", fn := fun _ => fun
  | [d1, d2] => { results := [.lit (.bool true)], args := [d1, d2] }
  | _ => none }
def lawS5895AWholeRow : OpenClaim := { program := "ybulkdrbg", sum := "ac45fde0222f6d472311799db4730e49ad99c40fe0b24a23edb14f8bdda7316a", func := "example.com/tiers-of-config/tiers-of-config.LawS5895AWhole", spec := "lawS5895AWhole", apart := false }
def LawS5895AWholeSaid : Prop := lawS5895AWholeRow.holds Yba.pinned (OpenSpec.ofChange lawS5895AWholeSpec)

/-- ITS FALSE NEIGHBOUR: 'it returns false'. Refute it at one input. -/
def lawS5895AWholeWrong : ChangeSpec := { name := "lawS5895AWhole", fn := fun _ => fun
  | [d1, d2] => { results := [.lit (.bool false)], args := [d1, d2] }
  | _ => none }
def LawS5895AWholeWrongFalsely : Prop := lawS5895AWholeRow.holds Yba.pinned (OpenSpec.ofChange lawS5895AWholeWrong)

end Rows
end Go.Proofs.Ybulkdrbg
