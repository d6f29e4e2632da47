/-
  sync.Mutex at this program's numbers (after the guide's worked Stats: its link is typed here by hand); TryLock on a free lock; 'ended'.
-/
import Derived.Test.YbulkdrbuRows
import Derived.Conc.MuLone
import Derived.Conc.RwLib
import Derived.WalkKit
import Derived.ProofKit
import Derived.Outline
import Derived.Defers
import Derived.WalkSpells
import Derived.WalkLawsBesides
import Derived.Laws.EntriesVeiled
import Derived.Lib.Builder
namespace Go.Proofs.Ybulkdrbu.PartsB
open Go.ChangeShapes Go.WideShapes Go.ChangeAt Go.RowKit Go.MuLone

abbrev muLink : Go.Conc.Locks.MuLink := { lock := 9, unlock := 8, ilock := 12, iunlock := 11, lockSlow := 20, unlockSlow := 19, disable := 13, enable := 14, acquire := 16, relMerge := 17, cas32 := 15, add32 := 18, tMutex := 44, tIMutex := 42, tPMutex := 74, tPIMutex := 75, tPI32 := 77, tUP := 79, tNoCopy := 32, tU32 := 38 }
theorem muLib : Go.Conc.Locks.MuLib Yba.prog muLink :=
  ⟨Yba.func9, Yba.func8, Yba.func12, Yba.func11, Yba.func13, Yba.func14, Yba.func16, Yba.func17, Yba.func15, Yba.func18, Yba.underlying42, Yba.runUnderlying42, Yba.sizeOf42, Yba.isAgg42, Yba.zeroValue42, Yba.underlying44, Yba.runUnderlying44, Yba.sizeOf44, Yba.isAgg44, Yba.zeroValue44, Yba.underlying74, Yba.runUnderlying74, Yba.sizeOf74, Yba.isAgg74, Yba.zeroValue74, Yba.underlying75, Yba.runUnderlying75, Yba.sizeOf75, Yba.isAgg75, Yba.zeroValue75, Yba.underlying77, Yba.runUnderlying77, Yba.sizeOf77, Yba.isAgg77, Yba.zeroValue77, Yba.underlying79, Yba.runUnderlying79, Yba.sizeOf79, Yba.isAgg79, Yba.zeroValue79, Yba.underlying32, Yba.runUnderlying32, Yba.sizeOf32, Yba.isAgg32, Yba.zeroValue32, Yba.underlying21, Yba.runUnderlying21, Yba.sizeOf21, Yba.isAgg21, Yba.zeroValue21, (by kernel_rfl)⟩


set_option maxRecDepth 100000 in
set_option maxHeartbeats 1600000 in
theorem itry_free (a : Addr) (w : World) (hc : w.cell? a = some (.int .i32 0)) (hz : w.frozen? a = false) :
    Calls Yba.prog 10 #[.pointer (some a)] w fun e w' => e = .returned (.bool true) ∧ w' = w.setCell a (.int .i32 1) := by
  have hd := MuLone.disable muLib
  have he := MuLone.enable muLib
  have hq := MuLone.acquire muLib
  have hcv := run_convert_to_unsafe (P := Yba.prog) (src := 75) (dst := 79) Yba.underlying75 Yba.underlying79 muLib.room_tIMutex (World.cell?_setCell_same w a (.int .i32 1) hc)
  have hcas := run_call_cas_hit (P := Yba.prog) Yba.func15 (by kernel_rfl) (by kernel_rfl) (by kernel_rfl) .i32 (by kernel_rfl) (y := 1) hc hz
  go_enter Yba.func10, Yba.ntmps10
  go_wp2
  go_ret
  exact ⟨rfl, rfl⟩

set_option maxRecDepth 100000 in
theorem try_free (a : Addr) (w : World) (hc : w.cell? a = some (.int .i32 0)) (hz : w.frozen? a = false) :
    Calls Yba.prog 7 #[.pointer (some a)] w fun e w' => e = .returned (.bool true) ∧ w' = w.setCell a (.int .i32 1) := by
  go_enter Yba.func7, Yba.ntmps7
  go_wp2_with (go_at_call 10; refine (itry_free a _ hc hz).mono ?_; rintro e w' ⟨rfl, rfl⟩)
  go_ret
  exact ⟨rfl, rfl⟩

/-- a store, and what was there stored back: nothing has turned -/
theorem store_back {w : World} {a : Addr} {v : Value} (u : Value) (h : w.cell? a = some v) : (w.setCell a u).setCell a v = w := by
  have hs : a.spot = none := World.cell?_spot h
  have heap : ((w.setCell a u).setCell a v).heap = w.heap := by
    apply Array.ext_getElem?
    intro i
    by_cases e : i = a.block
    · subst e
      simp only [World.cell?] at h
      cases hb : w.heap[a.block]? with
      | none => rw [hb] at h; cases h
      | some o =>
        rw [hb] at h
        cases o with
        | cells c t f =>
          simp only [hs, Option.isSome_none, Bool.false_eq_true, if_false] at h
          have hc : (c.setIfInBounds a.off u).setIfInBounds a.off v = c := by
            apply Array.ext_getElem?
            intro j
            by_cases ej : j = a.off
            · subst ej
              obtain ⟨hl, hv⟩ := Array.getElem?_eq_some_iff.1 h
              simp [hl, hv]
            · simp [Ne.symm ej]
          simp [World.setCell, Array.getElem?_modify, hb, hs, hc]
        | _ => cases h
    · rw [Below.heap_setCell _ _ _ _ e, Below.heap_setCell _ _ _ _ e]
  show World.mk _ _ _ _ _ = w
  cases w
  simp only [World.setCell] at heap ⊢
  simp only [heap]

set_option maxRecDepth 100000 in
theorem ended_any (bl bs : Nat) (lc sc : Bool) (w : World) (h0 : w.cell? ⟨bs, 0, none⟩ = some (.pointer (some ⟨bl, 0, none⟩))) (h3 : w.cell? ⟨bs, 3, none⟩ = some (.bool sc)) (_hb : bs ≠ bl)
    (g6 : w.cell? ⟨bl, 6, none⟩ = some (.int .i32 0)) (g8 : w.cell? ⟨bl, 8, none⟩ = some (.bool lc)) (f6 : w.frozen? ⟨bl, 6, none⟩ = false) :
    Calls Yba.prog 6 #[.pointer (some ⟨bs, 0, none⟩)] w fun e w' => e = .returned (.bool (lc || sc)) ∧ w = w' := by
  cases lc
  all_goals
    go_enter_defers Yba.func6, Yba.ntmps6
    go_wp2_with (go_at_call 9; refine (lock_free muLib ⟨bl, 6, none⟩ _ g6 f6).mono ?_; rintro e w' ⟨rfl, rfl⟩)
    refine leaves_cons (f := 8) (args := #[.pointer (some ⟨bl, 6, none⟩)]) (by simp) (by simp [go_sem]) ?_
    refine (unlock_deferred muLib ⟨bl, 6, none⟩ .returning _ ?_ ?_).mono ?_
    · exact World.cell?_setCell_same w ⟨bl, 6, none⟩ (.int .i32 1) g6
    · simp [f6]
    rintro e u' w'' ⟨rfl, rfl, rfl⟩
    exact ⟨_, results_tmp rfl _ _ _, rfl, (store_back _ g6).symm⟩

abbrev lobj (lc : Bool) : Obj := .cells #[.nilIface, .int .i64 0, .int .i64 0, .chan none, .int .u64 0, .int .u32 0, .int .i32 0, .int .u32 0, .bool lc, .map none, .map none] 47
abbrev sobj (bl : Nat) (sc : Bool) : Obj := .cells #[.pointer (some ⟨bl, 0, none⟩), .chan none, .chan none, .bool sc, .map none, .slice none 0 0, .map none] 59

set_option maxRecDepth 100000 in
set_option maxHeartbeats 1600000 in
theorem law_any (lc sc : Bool) (w : World) : Calls Yba.prog 4 #[.bool lc, .bool sc] w fun e w' => e = .returned (.bool true) ∧ Grown w w' := by
  obtain ⟨i47, hi47, _⟩ : ∃ i, Yba.prog.info? 47 = some i ∧ True := by
    have h : (Yba.prog.info? 47).map (fun _ => true) = some true := by kernel_rfl
    obtain ⟨i, h1, h2⟩ := Option.map_eq_some_iff.1 h
    exact ⟨i, h1, trivial⟩
  have qL : ∀ (w : World) (a : Addr), (binOp .neq 23 (.pointer (some a)) (.pointer (some a))).run Yba.prog w = .ok (.bool false) w := fun w a => Lib.run_neq_ptr_same w a Yba.underlying23 hi47
  have qS : ∀ (w : World) (a : Option Addr) (n c n' c' : Nat), (binOp .neq 56 (.slice a n c) (.slice none n' c')).run Yba.prog w = .ok (.bool (!a.isNone)) w := fun w a n c n' c' => run_neq_slice_nil_any w _ _ a n c n' c' Yba.underlying56
  have qM1 : ∀ (w : World) (a : Option Nat), (binOp .neq 27 (.map a) (.map none)).run Yba.prog w = .ok (.bool (!a.isNone)) w := fun w a => Go.run_neq_map_nil w _ _ _ a Yba.underlying27
  have qM2 : ∀ (w : World) (a : Option Nat), (binOp .neq 45 (.map a) (.map none)).run Yba.prog w = .ok (.bool (!a.isNone)) w := fun w a => Go.run_neq_map_nil w _ _ _ a Yba.underlying45
  have qM3 : ∀ (w : World) (a : Option Nat), (binOp .neq 55 (.map a) (.map none)).run Yba.prog w = .ok (.bool (!a.isNone)) w := fun w a => Go.run_neq_map_nil w _ _ _ a Yba.underlying55
  have qM4 : ∀ (w : World) (a : Option Nat), (binOp .neq 57 (.map a) (.map none)).run Yba.prog w = .ok (.bool (!a.isNone)) w := fun w a => Go.run_neq_map_nil w _ _ _ a Yba.underlying57
  have G : Hid (Grown w ((w.alloc (lobj lc)).alloc (sobj w.heap.size sc))) := ((Grown.refl w).alloc _ _).alloc _ _
  have c6 : ((w.alloc (lobj lc)).alloc (sobj w.heap.size sc)).cell? ⟨w.heap.size, 6, none⟩ = some (.int .i32 0) := by simp [go_sem]
  have z6 : ((w.alloc (lobj lc)).alloc (sobj w.heap.size sc)).frozen? ⟨w.heap.size, 6, none⟩ = false := by simp [go_sem]
  have E : Hid (Calls Yba.prog 6 #[.pointer (some ⟨w.heap.size + 1, 0, none⟩)] ((w.alloc (lobj lc)).alloc (sobj w.heap.size sc)) fun e w' => e = .returned (.bool (lc || sc)) ∧ ((w.alloc (lobj lc)).alloc (sobj w.heap.size sc)) = w') :=
    ended_any w.heap.size (w.heap.size + 1) lc sc _ (by simp [go_sem]) (by simp [go_sem]) (by omega) c6 (by simp [go_sem]) z6
  have T : Hid (Calls Yba.prog 7 #[.pointer (some ⟨w.heap.size, 6, none⟩)] ((w.alloc (lobj lc)).alloc (sobj w.heap.size sc)) fun e w' => e = .returned (.bool true) ∧ w' = ((w.alloc (lobj lc)).alloc (sobj w.heap.size sc)).setCell ⟨w.heap.size, 6, none⟩ (.int .i32 1)) :=
    try_free _ _ c6 z6
  cases lc <;> cases sc
  all_goals
    go_enter Yba.func4, Yba.ntmps4
    go_wp2_with fail
    refine E.out.mono ?_
    rintro e w' ⟨rfl, rfl⟩
    go_wp2_with fail
    refine T.out.mono ?_
    rintro e w5 ⟨rfl, hw5⟩
    have H5 : Hid (w5 = _) := hw5
    have k5 : w5.cell? ⟨w.heap.size, 6, none⟩ = some (.int .i32 1) := by rw [hw5]; exact World.cell?_setCell_same _ _ _ c6
    have z5 : w5.frozen? ⟨w.heap.size, 6, none⟩ = false := by rw [hw5]; simp [go_sem]
    clear hw5
    go_wp2_with fail
    refine (unlock_held muLib ⟨w.heap.size, 6, none⟩ _ k5 z5).mono ?_
    rintro e w6 ⟨rfl, hw6⟩
    rw [H5.out, store_back _ c6] at hw6
    have G6 : Hid (Grown w w6) := by rw [hw6]; exact G.out
    clear hw6 k5 z5 H5
    go_wp2_with fail
    go_ret
    exact ⟨rfl, G6.out⟩
end Go.Proofs.Ybulkdrbu.PartsB
