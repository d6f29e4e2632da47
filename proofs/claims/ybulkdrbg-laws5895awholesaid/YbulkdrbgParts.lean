/-
  'Mat': what is known of a [][]int in memory; what keeps it.
-/
import Derived.Test.YbulkdrbgRows
import Derived.WalkKit
import Derived.ProofKit
import Derived.OpenShut
import Derived.Outline
import Derived.WalkSpells
import Derived.Deep.OwnRows
import Derived.Deep.QuietTactic
import Derived.BigQuiet
import Derived.Laws.CopyOwn
import Derived.Deep.RegionLawGrows
namespace Go.Proofs.Ybulkdrbg.Parts
open Go.ChangeShapes Go.WideShapes Go.ChangeAt Go.RowKit

theorem info3 : (Yba.prog.info? 3).map (fun i => (i.zero, i.size, i.bytes)) = some (some (.int .i64 0), 1, 8) := by kernel_rfl
theorem info30 : (Yba.prog.info? 30).map (fun i => (i.zero, i.size, i.bytes)) = some (some (.slice none 0 0), 1, 24) := by kernel_rfl

theorem ret_bool {a b : Bool} (h : a = b) : Ending.returned (.bool a) = .returned (.bool b) := by rw [h]
theorem ret_int {k : IntKind} {a b : Int} (h : a = b) : Ending.returned (.int k a) = .returned (.int k b) := by rw [h]

theorem add_at (b o j : Nat) : (⟨b, o, none⟩ : Addr).add j = ⟨b, o + j, none⟩ := by
  unfold Addr.add
  split <;> simp_all

/-- A [][]int: its outer cells at 'ao', n of them; row r lies at 'A r', 'L r' long, its numbers 'Z r c'. All its cells lie in blocks from lo on, below hi. -/
structure Mat (w : World) (lo hi : Nat) (ao : Option Addr) (n : Nat) (A : Nat → Option Addr) (L C : Nat → Nat) (Z : Nat → Nat → Int) : Prop where
  top : ∀ r, r < n → ∃ b o, ao = some ⟨b, o, none⟩ ∧ lo ≤ b ∧ b < hi ∧ w.cell? ⟨b, o + r, none⟩ = some (.slice (A r) (L r) (C r))
  row : ∀ r, r < n → ∀ c, c < L r → ∃ b o, A r = some ⟨b, o, none⟩ ∧ lo ≤ b ∧ b < hi ∧ w.cell? ⟨b, o + c, none⟩ = some (.int .i64 (Z r c))
  nil : ∀ r, r < n → A r = none → L r = 0
  lim : ∀ r, r < n → L r ≤ 9223372036854775807

theorem Mat.below {w w' : World} {lo hi : Nat} {ao : Option Addr} {n : Nat} {A : Nat → Option Addr} {L C : Nat → Nat} {Z : Nat → Nat → Int} (h : Mat w lo hi ao n A L C Z) (hb : Below hi w w') : Mat w' lo hi ao n A L C Z :=
  ⟨fun r hr => by
    obtain ⟨b, o, e, h1, h2, h3⟩ := h.top r hr
    exact ⟨b, o, e, h1, h2, (hb.cell (p := ⟨b, o + r, none⟩) h2).trans h3⟩,
   fun r hr c hc => by
    obtain ⟨b, o, e, h1, h2, h3⟩ := h.row r hr c hc
    exact ⟨b, o, e, h1, h2, (hb.cell (p := ⟨b, o + c, none⟩) h2).trans h3⟩, h.nil, h.lim⟩

theorem Mat.same {w w' : World} {lo hi : Nat} {ao : Option Addr} {n : Nat} {A : Nat → Option Addr} {L C : Nat → Nat} {Z : Nat → Nat → Int} (h : Mat w lo hi ao n A L C Z) (hb : w'.heap = w.heap) : Mat w' lo hi ao n A L C Z :=
  ⟨fun r hr => by
    obtain ⟨b, o, e, h1, h2, h3⟩ := h.top r hr
    exact ⟨b, o, e, h1, h2, by rw [← h3]; simp [World.cell?, hb]⟩,
   fun r hr c hc => by
    obtain ⟨b, o, e, h1, h2, h3⟩ := h.row r hr c hc
    exact ⟨b, o, e, h1, h2, by rw [← h3]; simp [World.cell?, hb]⟩, h.nil, h.lim⟩

/-! ### zzs5895asmall -/
/-- the sum of the first k lengths -/
def tot (L : Nat → Nat) : Nat → Nat
  | 0 => 0
  | k + 1 => tot L k + L k

def SmallPost (n : Nat) (L : Nat → Nat) (w : World) (e : Ending) (w' : World) : Prop := ∃ b, e = .returned (.bool b) ∧ w = w' ∧ (b = true → n ≤ 65536 ∧ ∀ r, r < n → L r ≤ 1048576)

theorem small_any (ao : Option Addr) (n cap : Nat) (A : Nat → Option Addr) (L C : Nat → Nat) (Z : Nat → Nat → Int) (w : World) (hM : Mat w 0 w.heap.size ao n A L C Z) (hn : n ≤ 9223372036854775807) :
    Calls Yba.prog 4 #[.slice ao n cap] w (SmallPost n L w) := by
  by_cases hbig : 65536 < n
  · have hb' : (65536 : Int) < (n : Int) := by omega
    go_enter Yba.func4, Yba.ntmps4
    go_wp2
    go_ret
    exact ⟨_, rfl, rfl, fun h => by cases h⟩
  have hb' : (n : Int) ≤ 65536 := by omega
  go_enter Yba.func4, Yba.ntmps4
  go_wp2
  go_loop [3, 10] (fun t i => ∃ (k : Nat) (s : Int), k ≤ n ∧ i = .int .i64 k ∧ t = .int .i64 s ∧ 0 ≤ s ∧ s ≤ 1048576 ∧ ∀ r, r < k → L r ≤ 1048576) (fun _ i => n - (intOf i).toNat)
  case atStart => exact ⟨0, 0, by omega, rfl, rfl, by omega, by omega, fun r hr => by omega⟩
  case round =>
    obtain ⟨k, s, hk, rfl, rfl, hs0, hs1, hL⟩ := hrel
    have HL : Hid (∀ r, r < k → L r ≤ 1048576) := hL
    clear hL
    by_cases hlt : k < n
    · obtain ⟨b, o, rfl, _, _, hc⟩ := hM.top k hlt
      have hl := hM.lim k hlt
      by_cases h1 : 1048576 < L k
      · have h1' : (1048576 : Int) < (L k : Int) := by omega
        go_wp2
        go_ret
        exact ⟨_, rfl, rfl, fun h => by cases h⟩
      · by_cases h2 : 1048576 < s + (L k : Int)
        · go_wp2
          go_ret
          exact ⟨_, rfl, rfl, fun h => by cases h⟩
        · go_wp2
          go_round
          case rel =>
            exact ⟨k + 1, s + (L k : Int), by omega, by go_num, rfl, by omega, by omega, fun r hr => by
              by_cases e : r = k
              · subst e; omega
              · exact HL.out r (by omega)⟩
          case measure => simp [intOf]; omega
    · go_wp2
      go_ret
      exact ⟨_, rfl, rfl, fun _ => ⟨by omega, fun r hr => HL.out r (by omega)⟩⟩

/-! ### zzs5895aeq -/
theorem eq_any (ao bo : Option Addr) (n c1 c2 : Nat) (z : Nat → Int) (w : World) (hn : n ≤ 9223372036854775807) (hnil : ao.isNone = bo.isNone)
    (ha : ∀ c, c < n → ∃ b o, ao = some ⟨b, o, none⟩ ∧ w.cell? ⟨b, o + c, none⟩ = some (.int .i64 (z c)))
    (hb : ∀ c, c < n → ∃ b o, bo = some ⟨b, o, none⟩ ∧ w.cell? ⟨b, o + c, none⟩ = some (.int .i64 (z c))) :
    Calls Yba.prog 7 #[.slice ao n c1, .slice bo n c2] w fun e w' => e = .returned (.bool true) ∧ ∃ nq, w' = w.drewN nq := by
  have q30 : ∀ (w : World) (a : Option Addr) (n c n' c' : Nat), (binOp .eql 30 (.slice a n c) (.slice none n' c')).run Yba.prog w = .ok (.bool a.isNone) w := fun w a n c n' c' => Lib.run_eql_slice_nil w _ _ a n c n' c' Yba.underlying30
  go_enter Yba.func7, Yba.ntmps7
  go_wp2
  go_loopw [20] (fun i wr => ∃ (k nq : Nat), k ≤ n ∧ i = .int .i64 k ∧ wr = w.drewN nq) (fun i _ => n - (intOf i).toNat)
  case atStart => exact ⟨0, 0, by omega, rfl, rfl⟩
  case round =>
    obtain ⟨k, nq, hk, rfl, rfl⟩ := hrel
    by_cases hlt : k < n
    · obtain ⟨b1, o1, rfl, g1⟩ := ha k hlt
      obtain ⟨b2, o2, rfl, g2⟩ := hb k hlt
      clear ha hb hnil
      go_wp2
      go_quiet (fail)
      go_wp2
      go_roundw
      case rel => exact ⟨k + 1, _, by omega, by go_num, rfl⟩
      case measure => simp [intOf]; omega
    · go_wp2
      go_ret
      exact ⟨rfl, _, rfl⟩
end Go.Proofs.Ybulkdrbg.Parts
