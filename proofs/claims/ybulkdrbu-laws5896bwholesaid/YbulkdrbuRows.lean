/-
  No cell of these rows narrows 'for every input' (looked for: loops, veiled, ifaces, maps, wideKeys, modest, calm, conditions, laid).
  DERIVED. THE GIVEN ROWS OF THIS SEAT. 2 by the template 'for every input the law returns true; each argument reads behind the call as it read before'; 0 by the template 'total and deterministic' (their statements: YbulkdrbuTotals.lean).
  GIVEN WITH THE SEED: the statements are not yours to turn. If you find one false, say at which input.
  Laid BY PROGRAM, IN A SANDBOX (cutbox-rows.mjs): the forced cells as the released guide's own fill.sh prints them over the translation 27255472e1604f95… (all of the seat's roots in one cut). By AI agents, Wed Nov 11 2026. No macro, syntax, notation, axiom, sorry.
-/
import Derived.Test.YbulkdrbuChecked
import GoSem.Claim
import GoSem.ClaimJoined
import GoSem.ClaimMapViews
import Derived.JoinedTies
import Derived.KernelRfl
namespace Go.Proofs.Ybulkdrbu
/- THE CELL 'sum', in the pinned program and in every row, IS THE sha256 OF THE DUMP (.gsa) THAT YbulkdrbuProg.lean LOADS. Nothing in Lean hashes anything: it is a label: what it is worth is what the hold of that sum in a sandbox is worth. -/
noncomputable def Yba.pinned : Pinned := { name := "ybulkdrbu", sum := "27255472e1604f95f270bbb650c9fce58e31559a1a4a797b7deb35ec8576cbe8", checked := Yba.checked }
namespace Rows
def none {H : Type} : Left H := { results := [], args := [] }

/-- 'sideband.LawS5896AWhole': WHATEVER THE INPUT: true; the input reads as it did. -/
def lawS5896AWholeSpec : ChangeSpec := { name := "lawS5896AWhole", fn := fun _ => fun
  | [d1, d2, d3, d4] => { results := [.lit (.bool true)], args := [d1, d2, d3, d4] }
  | _ => none }
def lawS5896AWholeRow : OpenClaim := { program := "ybulkdrbu", sum := "27255472e1604f95f270bbb650c9fce58e31559a1a4a797b7deb35ec8576cbe8", func := "example.com/sideband/sideband.LawS5896AWhole", spec := "lawS5896AWhole", apart := false }
def LawS5896AWholeSaid : Prop := lawS5896AWholeRow.holds Yba.pinned (OpenSpec.ofChange lawS5896AWholeSpec)

/-- ITS FALSE NEIGHBOUR: 'it returns false'. Refute it at one input. -/
def lawS5896AWholeWrong : ChangeSpec := { name := "lawS5896AWhole", fn := fun _ => fun
  | [d1, d2, d3, d4] => { results := [.lit (.bool false)], args := [d1, d2, d3, d4] }
  | _ => none }
def LawS5896AWholeWrongFalsely : Prop := lawS5896AWholeRow.holds Yba.pinned (OpenSpec.ofChange lawS5896AWholeWrong)

/-- 'sideband.LawS5896BWhole': WHATEVER THE INPUT: true; the input reads as it did. -/
def lawS5896BWholeSpec : ChangeSpec := { name := "lawS5896BWhole", fn := fun _ => fun
  | [d1, d2] => { results := [.lit (.bool true)], args := [d1, d2] }
  | _ => none }
def lawS5896BWholeRow : OpenClaim := { program := "ybulkdrbu", sum := "27255472e1604f95f270bbb650c9fce58e31559a1a4a797b7deb35ec8576cbe8", func := "example.com/sideband/sideband.LawS5896BWhole", spec := "lawS5896BWhole", inPlace := ["(*internal/sync.Mutex).Lock", "internal/race.Disable", "sync/atomic.CompareAndSwapInt32", "internal/race.Enable", "internal/race.Acquire", "(*internal/sync.Mutex).lockSlow", "internal/sync.runtime_canSpin", "internal/sync.runtime_doSpin", "internal/sync.throw", "internal/sync.runtime_nanotime", "internal/sync.runtime_SemacquireMutex", "sync/atomic.AddInt32", "(*internal/sync.Mutex).Unlock", "internal/race.ReleaseMerge", "(*internal/sync.Mutex).unlockSlow", "internal/sync.fatal", "internal/sync.runtime_Semrelease", "(*internal/sync.Mutex).TryLock"], apart := false }
def LawS5896BWholeSaid : Prop := lawS5896BWholeRow.holds Yba.pinned (OpenSpec.ofChange lawS5896BWholeSpec)

/-- ITS FALSE NEIGHBOUR: 'it returns false'. Refute it at one input. -/
def lawS5896BWholeWrong : ChangeSpec := { name := "lawS5896BWhole", fn := fun _ => fun
  | [d1, d2] => { results := [.lit (.bool false)], args := [d1, d2] }
  | _ => none }
def LawS5896BWholeWrongFalsely : Prop := lawS5896BWholeRow.holds Yba.pinned (OpenSpec.ofChange lawS5896BWholeWrong)

end Rows
end Go.Proofs.Ybulkdrbu
