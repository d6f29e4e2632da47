/-
  Parts for 'LawS5899AWhole': what an integer's text tells.
-/
import Derived.Test.YbulkdrdkRows
import Derived.WalkKit
import Derived.ProofKit
import Derived.OpenShut
import Derived.Outline
import Derived.WalkSpells
import Derived.WalkLawsBesides
import Derived.Deep.OwnRows
import Derived.Deep.QuietTactic
import Derived.Deep.RegionWith
import Derived.BigQuiet
import Derived.Deep.DeepCutAuto
namespace Go.Proofs.Ybulkdrdk.Parts
open Go.ChangeShapes Go.WideShapes Go.ChangeAt Go.RowKit
set_option linter.unusedVariables false

/-- the code behind the first n statements -/
def tl : Nat → Code → Code
  | 0, c => c
  | n + 1, .seq _ b => tl n b
  | _ + 1, c => c

/-- the byte at k -/
def cc (d : ByteArray) (k : Nat) : Nat := if h : k < d.size then (d[k]'h).toNat else 0
theorem cc_lt {d : ByteArray} {k : Nat} (h : k < d.size) : (d[k]'h).toNat = cc d k := by rw [cc, dif_pos h]
theorem cc_le (d : ByteArray) (k : Nat) : cc d k ≤ 255 := by
  unfold cc
  split
  · rename_i h
    have := (d[k]'h).toNat_lt
    omega
  · omega
def Dig (d : ByteArray) (n : Nat) : Prop := ∀ i, i < n → 48 ≤ cc d i ∧ cc d i ≤ 57
/-- the number that the first digits tell -/
def val (d : ByteArray) : Nat → Nat
  | 0 => 0
  | k + 1 => val d k * 10 + (cc d k - 48)
def Bad (d : ByteArray) : Prop := d.size = 0 ∨ (cc d 0 = 48 ∧ 1 < d.size) ∨ ¬ Dig d d.size
def lim (neg : Bool) : Nat := if neg then 9223372036854775808 else 9223372036854775807
def Big (neg : Bool) (d : ByteArray) : Prop := 19 < d.size ∨ lim neg < val d d.size
def sgn (neg : Bool) (n : Nat) : Int := if neg then -(n : Int) else (n : Int)
def tup (n : Int) (ok fits : Bool) : Value := .tuple #[.int .i64 n, .bool ok, .bool fits]
structure PRes (neg : Bool) (d : ByteArray) (v : Value) : Prop where
  bad : Bad d → v = tup 0 false false
  big : ¬ Bad d → Big neg d → v = tup 0 true false
  fit : ¬ Bad d → ¬ Big neg d → v = tup (sgn neg (val d d.size)) true true

theorem PRes.uniq {neg : Bool} {d : ByteArray} {v v' : Value} (h : PRes neg d v) (h' : PRes neg d v') : v = v' := by
  by_cases h1 : Bad d
  · rw [h.bad h1, h'.bad h1]
  · by_cases h2 : Big neg d
    · rw [h.big h1 h2, h'.big h1 h2]
    · rw [h.fit h1 h2, h'.fit h1 h2]

def ReadPost (neg : Bool) (d : ByteArray) (w : World) (e : Ending) (w' : World) : Prop := ∃ v, e = .returned v ∧ PRes neg d v ∧ w = w'

theorem PRes.of_bad {neg : Bool} {d : ByteArray} (h : Bad d) : PRes neg d (tup 0 false false) := ⟨fun _ => rfl, fun h' => absurd h h', fun h' => absurd h h'⟩
theorem PRes.of_big {neg : Bool} {d : ByteArray} (h : ¬ Bad d) (hb : Big neg d) : PRes neg d (tup 0 true false) := ⟨fun h' => absurd h' h, fun _ _ => rfl, fun _ h' => absurd hb h'⟩
theorem PRes.of_fit {neg : Bool} {d : ByteArray} {n : Int} (h : ¬ Bad d) (hb : ¬ Big neg d) (hn : n = sgn neg (val d d.size)) : PRes neg d (tup n true true) := ⟨fun h' => absurd h' h, fun _ h' => absurd h' hb, fun _ _ => by rw [hn]⟩

theorem val_lt (d : ByteArray) : ∀ k, Dig d k → val d k < 10 ^ k
  | 0, _ => by simp [val]
  | k + 1, h => by
    have h1 := val_lt d k (fun i hi => h i (by omega))
    have h2 := h k (by omega)
    rw [val, Nat.pow_succ]
    omega

/-- the same, as an uint64 tells it -/
def uv (d : ByteArray) (k : Nat) : Int := (val d k : Int) % 18446744073709551616
theorem uv_bd (d : ByteArray) (k : Nat) : 0 ≤ uv d k ∧ uv d k ≤ 18446744073709551615 := by unfold uv; omega

theorem u64_is (x : Int) : IntKind.u64.wrap x = x % 18446744073709551616 := by
  simp [IntKind.wrap, IntKind.signed, IntKind.bits]

theorem uv_step {d : ByteArray} {k : Nat} (h : 48 ≤ cc d k ∧ cc d k ≤ 57) : IntKind.u64.wrap (IntKind.u64.wrap (10 * uv d k) + ((cc d k : Int) - 48)) = uv d (k + 1) := by
  rw [u64_is, u64_is]
  unfold uv
  rw [val]
  omega

theorem nodig {d : ByteArray} {k : Nat} (h : ¬ (48 ≤ cc d k ∧ cc d k ≤ 57)) : (9 : Int) < IntKind.u64.wrap ((cc d k : Int) - 48) := by
  have := cc_le d k
  rw [u64_is]
  omega

theorem dig_step {d : ByteArray} {k : Nat} (h : Dig d k) (h2 : 48 ≤ cc d k ∧ cc d k ≤ 57) : Dig d (k + 1) := by
  intro i hi
  by_cases e : i < k
  · exact h i e
  · obtain rfl : i = k := by omega
    exact h2

/-- the text without its sign -/
def negOf (s : ByteArray) : Bool := decide (0 < s.size ∧ cc s 0 = 45)
def digOf (s : ByteArray) : ByteArray := if negOf s = true then s.extract 1 s.size else s

end Go.Proofs.Ybulkdrdk.Parts
