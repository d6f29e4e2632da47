/-
  Parts for 'LawS5896AWhole': an update of a map with uint32 keys; NewSession.
-/
import Derived.Test.YbulkdrbuRows
import Derived.WalkKit
import Derived.ProofKit
import Derived.OpenShut
import Derived.ShutString
import Derived.ChangeOld
import Derived.Below
import Derived.Outline
import Derived.WalkSpells
import Derived.WalkLawsBesides
import Derived.Laws.EntriesVeiled
import Derived.Deep.QuietTactic
import Derived.BigQuiet
import Derived.Conc.SmallLaws
import Derived.Lib.Builder
namespace Go.Proofs.Ybulkdrbu.PartsA
open Go.ChangeShapes Go.WideShapes Go.ChangeAt Go.RowKit

/-! ### 'm[k] = v' with an uint32 key -/
def IntKeys (es : Array MapEntry) : Prop := ∀ e ∈ es.toList, ∃ n : Int, e.key = .int .u32 n

theorem findNow_int (n : Int) : ∀ (l : List MapEntry) (i : Nat), (∀ e ∈ l, ∃ m : Int, e.key = .int .u32 m) →
    Instr.findNow (.int .u32) (.int .u32 n) l i = some none ∨ ∃ j v, Instr.findNow (.int .u32) (.int .u32 n) l i = some (some (i + j, v)) ∧ (l[j]?).map (·.key) = some (.int .u32 n)
  | [], i, _ => Or.inl rfl
  | e :: l, i, h => by
    obtain ⟨m, hm⟩ := h e (by simp)
    by_cases hn : n = m
    · subst hn
      refine Or.inr ⟨0, e.val, ?_, ?_⟩
      · simp [Instr.findNow, Instr.sameNow, hm]
      · simp [hm]
    · have hnm : (n == m) = false := by simpa using hn
      rcases findNow_int n l (i + 1) (fun e he => h e (by simp [he])) with h1 | ⟨j, v, h1, h2⟩
      · refine Or.inl ?_
        simp [Instr.findNow, Instr.sameNow, hm, hnm, h1]
      · refine Or.inr ⟨j + 1, v, ?_, ?_⟩
        · simp [Instr.findNow, Instr.sameNow, hm, hnm, h1]; omega
        · simpa using h2

/-- what a store into the map b does to the world -/
structure MapTurn (b : Nat) (w w' : World) : Prop where
  os : w'.os = w.os
  tape : w'.tape = w.tape
  output : w'.output = w.output
  size : w'.heap.size = w.heap.size
  block : ∀ k, k ≠ b → w'.heap[k]? = w.heap[k]?

theorem upd_int {P : Program} {t kt et : TypeId} (ht : P.underlying t = some (.map kt et)) (hk : P.underlying kt = some (.int .u32)) {w : World} {b : Nat} {es : Array MapEntry} {clock : Nat} (hb : w.heap[b]? = some (.map es clock)) (hes : IntKeys es) (n : Int) (v : Value) :
    ∃ w' es' c', (Instr.mapUpdate t (.map (some b)) (.int .u32 n) v).run P w = .ok () w' ∧ w'.heap[b]? = some (.map es' c') ∧ IntKeys es' ∧ MapTurn b w w' := by
  have hchk : (Instr.checkKey false 10000 kt (.int .u32 n)).run P w = .ok () w := by
    rw [show (10000 : Nat) = 9999 + 1 from rfl, Instr.checkKey]
    simp [run_underlying hk]
  have turn : ∀ o : Obj, MapTurn b w { w with heap := w.heap.setIfInBounds b o } := fun o =>
    ⟨rfl, rfl, rfl, by simp, fun k hkb => by simp [Ne.symm hkb]⟩
  have hlt : b < w.heap.size := by
    obtain ⟨h, _⟩ := Array.getElem?_eq_some_iff.1 hb
    exact h
  rcases findNow_int n es.toList 0 hes with h1 | ⟨j, x, h1, h2⟩
  · have hf : (Instr.findKey kt (.int .u32 n) es.toList).run P w = .ok none w := by simp [Instr.findKey, run_underlying hk, h1]
    refine ⟨{ w with heap := w.heap.setIfInBounds b (.map (es.push { key := .int .u32 n, val := v, born := clock }) (clock + 1)) }, es.push { key := .int .u32 n, val := v, born := clock }, clock + 1, ?_, ?_, ?_, turn _⟩
    · simp [Instr.mapUpdate, run_underlying ht, MapKept.run_getObj_map hb, hchk, hf, MapKept.run_setObj_map _ hb, Result.andThen]
    · simp [hlt]
    · intro e he
      simp at he
      rcases he with he | rfl
      · exact hes e (by simpa using he)
      · exact ⟨n, rfl⟩
  · rw [Nat.zero_add] at h1
    have hf : (Instr.findKey kt (.int .u32 n) es.toList).run P w = .ok (some (j, x)) w := by simp [Instr.findKey, run_underlying hk, h1]
    have h3 : (es[j]?).map (·.key) = some (.int .u32 n) := by simpa using h2
    have h4 : (Instr.keyThatStays (((es[j]?).map (·.key)).getD (.int .u32 n)) (.int .u32 n)).run P w = .ok (.int .u32 n) w := by
      rw [h3]; simp [Instr.keyThatStays, Instr.sameBits]
    refine ⟨{ w with heap := w.heap.setIfInBounds b (.map (es.modify j fun e => { e with key := .int .u32 n, val := v }) clock) }, es.modify j fun e => { e with key := .int .u32 n, val := v }, clock, ?_, ?_, ?_, turn _⟩
    · simp only [Instr.mapUpdate]
      simp [run_underlying ht, MapKept.run_getObj_map hb, hchk, hf, h4, MapKept.run_setObj_map _ hb, Result.andThen]
    · simp [hlt]
    · intro e he
      have he' : e ∈ es.modify j fun e => { e with key := .int .u32 n, val := v } := Array.mem_toList_iff.1 he
      obtain ⟨i, hi, rfl⟩ := Array.mem_iff_getElem.1 he'
      rw [Array.getElem_modify]
      by_cases e1 : j = i
      · rw [if_pos e1]; exact ⟨n, rfl⟩
      · rw [if_neg e1]
        exact hes _ (by simp)

/-- the first entry of a map, under a key of pointer type -/
theorem upd_first {P : Program} {t kt et pt : TypeId} (ht : P.underlying t = some (.map kt et)) (hk : P.underlying kt = some (.pointer pt)) {w : World} {b : Nat} {clock : Nat} (hb : w.heap[b]? = some (.map #[] clock)) (a : Addr) (v : Value) :
    ∃ w' es' c', (Instr.mapUpdate t (.map (some b)) (.pointer (some a)) v).run P w = .ok () w' ∧ w'.heap[b]? = some (.map es' c') ∧ MapTurn b w w' := by
  have hchk : (Instr.checkKey false 10000 kt (.pointer (some a))).run P w = .ok () w := by
    rw [show (10000 : Nat) = 9999 + 1 from rfl, Instr.checkKey]
    simp [run_underlying hk]
  have hlt : b < w.heap.size := by
    obtain ⟨h, _⟩ := Array.getElem?_eq_some_iff.1 hb
    exact h
  have hf : (Instr.findKey kt (.pointer (some a)) []).run P w = .ok none w := by simp [Instr.findKey, run_underlying hk, Instr.findNow]
  refine ⟨{ w with heap := w.heap.setIfInBounds b (.map (#[].push { key := .pointer (some a), val := v, born := clock }) (clock + 1)) }, #[].push { key := .pointer (some a), val := v, born := clock }, clock + 1, ?_, ?_, ⟨rfl, rfl, rfl, by simp, fun k hkb => by simp [Ne.symm hkb]⟩⟩
  · simp [Instr.mapUpdate, run_underlying ht, MapKept.run_getObj_map hb, hchk, hf, MapKept.run_setObj_map _ hb, Result.andThen]
  · simp [hlt]

/-! ### NewSession -/
structure Session (w w' : World) (l : Value) (bs cr cd mo mt : Nat) : Prop where
  below : Below w.heap.size w w'
  cells : w'.heap[bs]? = some (.cells #[l, .chan (some cr), .chan (some cd), .bool false, .map (some mo), .slice none 0 0, .map (some mt)] 59 (0, 0))
  ready : w'.heap[cr]? = some (.chan 1 #[] false 0 0 false)
  done : w'.heap[cd]? = some (.chan 0 #[] false 0 0 false)
  offers : w'.heap[mo]? = some (.map #[] 0)
  tunnels : w'.heap[mt]? = some (.map #[] 0)
  new : w.heap.size ≤ bs ∧ w.heap.size ≤ cr ∧ w.heap.size ≤ cd ∧ w.heap.size ≤ mo ∧ w.heap.size ≤ mt
  apart : cr ≠ cd ∧ mo ≠ mt ∧ bs ≠ mo ∧ bs ≠ mt ∧ bs ≠ cr ∧ bs ≠ cd

def SessionPost (w : World) (l : Value) (e : Ending) (w' : World) : Prop := ∃ bs cr cd mo mt, e = .returned (.pointer (some ⟨bs, 0, none⟩)) ∧ Session w w' l bs cr cd mo mt

theorem info31 : ∃ i, Yba.prog.info? 31 = some i ∧ i.bytes = 0 := by
  have h : (Yba.prog.info? 31).map (·.bytes) = some 0 := by kernel_rfl
  obtain ⟨i, h1, h2⟩ := Option.map_eq_some_iff.1 h
  exact ⟨i, h1, h2⟩

theorem heap5 (w : World) (o0 o1 o2 o3 o4 : Obj) :
    (((((w.alloc o0).alloc o1).alloc o2).alloc o3).alloc o4).drew.heap[w.heap.size]? = some o0 ∧
    (((((w.alloc o0).alloc o1).alloc o2).alloc o3).alloc o4).drew.heap[w.heap.size + 1]? = some o1 ∧
    (((((w.alloc o0).alloc o1).alloc o2).alloc o3).alloc o4).drew.heap[w.heap.size + 1 + 1]? = some o2 ∧
    (((((w.alloc o0).alloc o1).alloc o2).alloc o3).alloc o4).drew.heap[w.heap.size + 1 + 1 + 1]? = some o3 ∧
    (((((w.alloc o0).alloc o1).alloc o2).alloc o3).alloc o4).drew.heap[w.heap.size + 1 + 1 + 1 + 1]? = some o4 := by
  have e : (((((w.alloc o0).alloc o1).alloc o2).alloc o3).alloc o4).drew.heap = ((((w.heap.push o0).push o1).push o2).push o3).push o4 := rfl
  rw [e]
  simp only [Array.getElem?_push, Array.size_push]
  refine ⟨?_, ?_, ?_, ?_, ?_⟩
  · rw [if_neg (by omega), if_neg (by omega), if_neg (by omega), if_neg (by omega), if_pos trivial]
  · rw [if_neg (by omega), if_neg (by omega), if_neg (by omega), if_pos trivial]
  · rw [if_neg (by omega), if_neg (by omega), if_pos trivial]
  · rw [if_neg (by omega), if_pos trivial]
  · rw [if_pos trivial]

theorem below5 (w : World) (o0 o1 o2 o3 o4 : Obj) : Below w.heap.size w (((((w.alloc o0).alloc o1).alloc o2).alloc o3).alloc o4).drew :=
  ((((((Below.refl _ _).alloc (Nat.le_refl _) o0).alloc (by simp) o1).alloc (by simp; omega) o2).alloc (by simp; omega) o3).alloc (by simp; omega) o4).drew

set_option maxHeartbeats 2000000 in
theorem new_any (la : Option Addr) (w : World) : Calls Yba.prog 5 #[.pointer la] w (SessionPost w (.pointer la)) := by
  obtain ⟨i, hi, hib⟩ := info31
  have hc1 : ∀ w : World, (Instr.makeChan 30 (.int .i64 1)).run Yba.prog w = .ok (.chan (some w.heap.size)) (w.alloc (.chan 1 #[] false 0 0 false)) := fun w => Conc.run_makeChan (w := w) Yba.underlying30 hi .i64 1 (by omega) (by rw [hib]; omega)
  have hc0 : ∀ w : World, (Instr.makeChan 30 (.int .i64 0)).run Yba.prog w = .ok (.chan (some w.heap.size)) (w.alloc (.chan 0 #[] false 0 0 false)) := fun w => Conc.run_makeChan (w := w) Yba.underlying30 hi .i64 0 (by omega) (by rw [hib]; omega)
  have hmm := @run_makeMap Yba.prog
  clear hi hib
  go_enter Yba.func5, Yba.ntmps5
  go_wp2
  go_region
  all_goals
    go_wp2
    go_ret
    refine ⟨_, _, _, _, _, rfl, below5 _ _ _ _ _ _, (heap5 _ _ _ _ _ _).2.2.2.2, ?_, ?_, ?_, ?_, ?_, ?_⟩
    · first | exact (heap5 _ _ _ _ _ _).1 | exact (heap5 _ _ _ _ _ _).2.1 | exact (heap5 _ _ _ _ _ _).2.2.1 | exact (heap5 _ _ _ _ _ _).2.2.2.1
    · first | exact (heap5 _ _ _ _ _ _).1 | exact (heap5 _ _ _ _ _ _).2.1 | exact (heap5 _ _ _ _ _ _).2.2.1 | exact (heap5 _ _ _ _ _ _).2.2.2.1
    · first | exact (heap5 _ _ _ _ _ _).1 | exact (heap5 _ _ _ _ _ _).2.1 | exact (heap5 _ _ _ _ _ _).2.2.1 | exact (heap5 _ _ _ _ _ _).2.2.2.1
    · first | exact (heap5 _ _ _ _ _ _).1 | exact (heap5 _ _ _ _ _ _).2.1 | exact (heap5 _ _ _ _ _ _).2.2.1 | exact (heap5 _ _ _ _ _ _).2.2.2.1
    · refine ⟨?_, ?_, ?_, ?_, ?_⟩ <;> omega
    · refine ⟨?_, ?_, ?_, ?_, ?_, ?_⟩ <;> omega
end Go.Proofs.Ybulkdrbu.PartsA
