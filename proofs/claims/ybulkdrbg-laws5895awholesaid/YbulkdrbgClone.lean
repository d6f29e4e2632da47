/-
  THE CLONE.
-/
import Derived.Test.YbulkdrbgParts
namespace Go.Proofs.Ybulkdrbg.Parts
open Go.ChangeShapes Go.WideShapes Go.ChangeAt Go.RowKit

/-- what the clone's outer cell r holds when its row is made -/
def cv (A : Nat → Option Addr) (L : Nat → Nat) (G : Nat → Nat) (r : Nat) : Value :=
  match A r with
  | none => .slice none 0 0
  | some _ => .slice (some ⟨G r, 0, none⟩) (L r) (L r)

structure Cl (w wr : World) (n k : Nat) (A : Nat → Option Addr) (L : Nat → Nat) (Z : Nat → Nat → Int) (G : Nat → Nat) : Prop where
  below : Below w.heap.size w wr
  top : wr.rowIs w.heap.size 30 n (fun r => if r < k then cv A L G r else .slice none 0 0)
  rows : ∀ r, r < k → A r ≠ none → w.heap.size < G r ∧ wr.rowIs (G r) 3 (L r) (fun c => .int .i64 (Z r c))

theorem cl_start (w : World) (n : Nat) (A : Nat → Option Addr) (L : Nat → Nat) (Z : Nat → Nat → Int) (G : Nat → Nat) : Cl w (w.alloc (.cells (madeCells #[.slice none 0 0] n) 30)) n 0 A L Z G :=
  ⟨(Below.refl _ _).alloc (Nat.le_refl _) _, (World.rowIs_made w _ n 30).congr (fun j _ => by simp), fun r hr => absurd hr (Nat.not_lt_zero _)⟩

theorem cl_nil {w wr : World} {n k : Nat} {A : Nat → Option Addr} {L : Nat → Nat} {Z : Nat → Nat → Int} {G : Nat → Nat} (h : Cl w wr n k A L Z G) (hA : A k = none) : Cl w wr n (k + 1) A L Z G := by
  refine ⟨h.below, h.top.congr (fun r _ => ?_), fun r hr hn => h.rows r ?_ hn⟩
  · by_cases e : r = k
    · subst e; simp [cv, hA]
    · by_cases e2 : r < k
      · rw [if_pos e2, if_pos (by omega)]
      · rw [if_neg e2, if_neg (by omega)]
  · by_cases e : r = k
    · subst e; exact absurd hA hn
    · omega

theorem cl_row {w wr w' : World} {n k : Nat} {A : Nat → Option Addr} {L : Nat → Nat} {Z : Nat → Nat → Int} {G : Nat → Nat} (h : Cl w wr n k A L Z G) {a : Addr} (hA : A k = some a) (hk : k < n) (c0 : Array Value)
    (hrow : w'.rowIs wr.heap.size 3 (L k) (fun c => .int .i64 (Z k c)))
    (hb : Below wr.heap.size ((wr.setCell ⟨w.heap.size, k, none⟩ (.slice (some ⟨wr.heap.size, 0, none⟩) (L k) (L k))).alloc (.cells c0 3)) w') :
    Cl w w' n (k + 1) A L Z (fun r => if r = k then wr.heap.size else G r) := by
  have hlt : w.heap.size < wr.heap.size := h.top.lt
  refine ⟨?_, ?_, fun r hr hn => ?_⟩
  · exact ((h.below.setCell (p := ⟨w.heap.size, k, none⟩) (Nat.le_refl _) _).alloc (by simp; omega) _).trans (hb.mono (by omega))
  · have h1 := (((h.top.set k (.slice (some ⟨wr.heap.size, 0, none⟩) (L k) (L k))).alloc (.cells c0 3)).of_block (hb.block _ hlt))
    refine h1.congr (fun r _ => ?_)
    by_cases e : r = k
    · subst e; simp [cv, hA]
    · rw [if_neg e]
      by_cases e2 : r < k
      · rw [if_pos e2, if_pos (by omega)]
        simp [cv, e]
      · rw [if_neg e2, if_neg (by omega)]
  · by_cases e : r = k
    · subst e
      simp only [if_true]
      exact ⟨hlt, hrow⟩
    · simp only [e, if_false]
      obtain ⟨h1, h2⟩ := h.rows r (by omega) hn
      have h3 := (h2.setOther (a := ⟨w.heap.size, k, none⟩) (by show G r ≠ w.heap.size; omega) (.slice (some ⟨wr.heap.size, 0, none⟩) (L k) (L k))).alloc (.cells c0 3)
      exact ⟨h1, h3.of_block (hb.block _ h2.lt)⟩

/-- the cells that the copy brings over -/
def zc (Z : Nat → Nat → Int) (L : Nat → Nat) (k : Nat) : List Value := (List.range (L k)).map fun c => .int .i64 (Z k c)
theorem zc_length (Z : Nat → Nat → Int) (L : Nat → Nat) (k : Nat) : (zc Z L k).length = L k := by simp [zc]
theorem zc_at {Z : Nat → Nat → Int} {L : Nat → Nat} {k j : Nat} {v : Value} (h : (zc Z L k)[j]? = some v) : j < L k ∧ v = .int .i64 (Z k j) := by
  have hj : j < (zc Z L k).length := by
    rcases Nat.lt_or_ge j (zc Z L k).length with h' | h'
    · exact h'
    · rw [List.getElem?_eq_none h'] at h; cases h
  rw [zc_length] at hj
  refine ⟨hj, ?_⟩
  simp [zc, hj] at h
  exact h.symm
theorem zc_one (Z : Nat → Nat → Int) (L : Nat → Nat) (k : Nat) : ∀ v ∈ zc Z L k, v.oneCell' = true := by
  intro v hv
  simp only [zc, List.mem_map] at hv
  obtain ⟨c, _, rfl⟩ := hv
  rfl
/-- the row that make has laid, as a list -/
def mk0 (n : Nat) : List Value := (madeCells #[.int .i64 0] n).toList
theorem mk0_length (n : Nat) : (mk0 n).length = n := by simp [mk0, size_madeCells]
theorem row_filled {w' : World} {g : Nat} {Z : Nat → Nat → Int} {L : Nat → Nat} {k : Nat} (h : w'.heap[g]? = some (.cells (splice (mk0 (L k)) 0 (zc Z L k)).toArray 3 (0, 0))) : w'.rowIs g 3 (L k) (fun c => .int .i64 (Z k c)) := by
  have e : splice (mk0 (L k)) 0 (zc Z L k) = zc Z L k := by
    simp [splice, zc_length]
    exact Nat.le_of_eq (mk0_length _)
  rw [e] at h
  refine ⟨_, h, by simp [zc_length], fun i hi => ?_⟩
  simp [zc, hi]

theorem cell_keep (w : World) (p : Addr) (v : Value) (o : Obj) (b off : Nat) (h1 : b ≠ p.block) (h2 : b < w.heap.size) : ((w.setCell p v).alloc o).cell? ⟨b, off, none⟩ = w.cell? ⟨b, off, none⟩ := by
  rw [World.cell?_alloc_past _ _ _ (by rw [Deep.nblk_setCell]; exact h2), World.cell?_setCell_other _ _ _ _ (fun e => h1 (by rw [e]))]

def ca (A : Nat → Option Addr) (G : Nat → Nat) (r : Nat) : Option Addr :=
  match A r with
  | none => none
  | some _ => some ⟨G r, 0, none⟩
def cc (A : Nat → Option Addr) (L : Nat → Nat) (r : Nat) : Nat :=
  match A r with
  | none => 0
  | some _ => L r

def ClonePost (w : World) (ao : Option Addr) (n : Nat) (A : Nat → Option Addr) (L : Nat → Nat) (Z : Nat → Nat → Int) (e : Ending) (w' : World) : Prop :=
  ∃ (b' : Option Addr) (A' : Nat → Option Addr) (C' : Nat → Nat), e = .returned (.slice b' n n) ∧ Mat w' w.heap.size w'.heap.size b' n A' L C' Z ∧ Below w.heap.size w w' ∧ b'.isNone = ao.isNone ∧ (∀ r, r < n → (A' r).isNone = (A r).isNone)

theorem clone_fin {w wr : World} {a : Addr} {n : Nat} {A : Nat → Option Addr} {L C : Nat → Nat} {Z : Nat → Nat → Int} {G : Nat → Nat} (hM : Mat w 0 w.heap.size (some a) n A L C Z) (hcl : Cl w wr n n A L Z G) :
    ClonePost w (some a) n A L Z (.returned (.slice (some ⟨w.heap.size, 0, none⟩) n n)) wr := by
  have hsz : w.heap.size < wr.heap.size := hcl.top.lt
  refine ⟨some ⟨w.heap.size, 0, none⟩, ca A G, cc A L, rfl, ⟨fun r hr => ⟨w.heap.size, 0, rfl, Nat.le_refl _, hsz, ?_⟩, fun r hr c hc => ?_, fun r hr e => ?_, hM.lim⟩, hcl.below, rfl, fun r hr => ?_⟩
  · have := hcl.top.cell hr
    rw [if_pos hr] at this
    rw [Nat.zero_add, this]
    cases hA : A r with
    | none => simp [cv, ca, cc, hA, hM.nil r hr hA]
    | some x => simp [cv, ca, cc, hA]
  · cases hA : A r with
    | none => have := hM.nil r hr hA; omega
    | some x =>
      obtain ⟨h1, h2⟩ := hcl.rows r hr (by rw [hA]; exact fun e => by cases e)
      exact ⟨G r, 0, by simp [ca, hA], by omega, h2.lt, by rw [Nat.zero_add]; exact h2.cell hc⟩
  · cases hA : A r with
    | none => exact hM.nil r hr hA
    | some x => simp [ca, hA] at e
  · cases hA : A r <;> simp [ca, hA]

set_option maxHeartbeats 1000000 in
theorem clone_any (ao : Option Addr) (n cap : Nat) (A : Nat → Option Addr) (L C : Nat → Nat) (Z : Nat → Nat → Int) (w : World) (hM : Mat w 0 w.heap.size ao n A L C Z) (hn : n ≤ 65536) (hL : ∀ r, r < n → L r ≤ 1048576) (hnil : ao = none → n = 0) :
    Calls Yba.prog 5 #[.slice ao n cap] w (ClonePost w ao n A L Z) := by
  have q22 : ∀ (w : World) (a : Option Addr) (n c n' c' : Nat), (binOp .eql 22 (.slice a n c) (.slice none n' c')).run Yba.prog w = .ok (.bool a.isNone) w := fun w a n c n' c' => Lib.run_eql_slice_nil w _ _ a n c n' c' Yba.underlying22
  have q30 : ∀ (w : World) (a : Option Addr) (n c n' c' : Nat), (binOp .neq 30 (.slice a n c) (.slice none n' c')).run Yba.prog w = .ok (.bool (!a.isNone)) w := fun w a n c n' c' => run_neq_slice_nil_any w _ _ a n c n' c' Yba.underlying30
  cases ao with
  | none =>
    obtain rfl := hnil rfl
    go_enter Yba.func5, Yba.ntmps5
    go_wp2
    go_ret
    exact ⟨none, fun _ => none, fun _ => 0, rfl, ⟨fun r hr => by omega, fun r hr => by omega, fun r hr => by omega, fun r hr => by omega⟩, Below.refl _ _, rfl, fun r hr => by omega⟩
  | some a =>
    have hmk22 := run_make_row' (P := Yba.prog) 22 30 (.slice none 0 0) 24 Yba.underlying22 info30 rfl .i64 .i64 n (by omega) (by omega)
    go_enter Yba.func5, Yba.ntmps5
    go_wp2
    clear hmk22
    go_loopw [12] (fun i wr => ∃ (k : Nat) (G : Nat → Nat), k ≤ n ∧ i = .int .i64 k ∧ Cl w wr n k A L Z G) (fun i _ => n - (intOf i).toNat)
    case atStart => exact ⟨0, fun _ => 0, by omega, rfl, cl_start _ _ _ _ _ _⟩
    case round =>
      obtain ⟨k, G, hk, rfl, hcl⟩ := hrel
      by_cases hlt : k < n
      · obtain ⟨b, o, ea, _, hbw, hc⟩ := hM.top k hlt
        cases ea
        have hlk := hL k hlt
        have hc' : wr.cell? ⟨b, o + k, none⟩ = some (.slice (A k) (L k) (C k)) := (hcl.below.cell (p := ⟨b, o + k, none⟩) hbw).trans hc
        cases hA : A k with
        | none =>
          have hN := cl_nil hcl hA
          rw [hA] at hc'
          clear hcl hA
          go_wp2
          go_roundw
          case rel => exact ⟨k + 1, G, by omega, by go_num, hN⟩
          case measure => simp [intOf]; omega
        | some a' =>
          rw [hA] at hc'
          have hmk30 := run_make_row' (P := Yba.prog) 30 3 (.int .i64 0) 8 Yba.underlying30 info3 rfl .i64 .i64 (L k) (by omega) (by omega)
          have ht1 : wr.cell? ⟨w.heap.size, k, none⟩ = some (.slice none 0 0) := by simpa using hcl.top.cell hlt
          have ht2 : wr.frozen? ⟨w.heap.size, k, none⟩ = false := hcl.top.frozen k
          have hsz : w.heap.size < wr.heap.size := hcl.top.lt
          have hlim := hM.row k hlt
          go_wp2
          have hc2 : ((wr.setCell ⟨w.heap.size, k, none⟩ (.slice (some ⟨wr.heap.size, 0, none⟩) (L k) (L k))).alloc (.cells (madeCells #[.int .i64 0] (L k)) 3)).cell? ⟨b, o + k, none⟩ = some (.slice (some a') (L k) (C k)) := by
            exact (cell_keep _ _ _ _ _ _ (by show b ≠ w.heap.size; omega) (by omega)).trans hc'
          have hg : Hid (((wr.setCell ⟨w.heap.size, k, none⟩ (.slice (some ⟨wr.heap.size, 0, none⟩) (L k) (L k))).alloc (.cells (madeCells #[.int .i64 0] (L k)) 3)).drew.heap[wr.heap.size]? = some (.cells (mk0 (L k)).toArray 3 (0, 0))) := by
            have := Deep.blk_alloc_new (wr.setCell ⟨w.heap.size, k, none⟩ (.slice (some ⟨wr.heap.size, 0, none⟩) (L k) (L k))) (.cells (madeCells #[.int .i64 0] (L k)) 3)
            rw [Deep.nblk_setCell] at this
            show ((wr.setCell ⟨w.heap.size, k, none⟩ (.slice (some ⟨wr.heap.size, 0, none⟩) (L k) (L k))).alloc (.cells (madeCells #[.int .i64 0] (L k)) 3)).heap[wr.heap.size]? = _
            rw [this]
            simp [mk0]
          have hpos : Hid (0 < (zc Z L k).length → some (⟨wr.heap.size, 0, none⟩ : Addr) = some ⟨wr.heap.size, 0, none⟩ ∧ ∃ ad, some a' = some ad ∧ ∀ j v, (zc Z L k)[j]? = some v → ((wr.setCell ⟨w.heap.size, k, none⟩ (.slice (some ⟨wr.heap.size, 0, none⟩) (L k) (L k))).alloc (.cells (madeCells #[.int .i64 0] (L k)) 3)).drew.cell? (ad.add j) = some v) := by
            intro _
            refine ⟨rfl, a', rfl, fun j v hv => ?_⟩
            obtain ⟨hj, rfl⟩ := zc_at hv
            obtain ⟨b2, o2, e2, _, hb2, hz⟩ := hM.row k hlt j hj
            rw [hA] at e2
            cases e2
            rw [World.cell?_drew, add_at]
            exact (cell_keep wr ⟨w.heap.size, k, none⟩ (.slice (some ⟨wr.heap.size, 0, none⟩) (L k) (L k)) (.cells (madeCells #[.int .i64 0] (L k)) 3) b2 (o2 + j) (by show b2 ≠ w.heap.size; omega) (by omega)).trans ((hcl.below.cell (p := ⟨b2, o2 + j, none⟩) hb2).trans hz)
          go_region_law (refine step_copy_splice rfl (.tmp 32) (.tmp 36) 30 30 rfl 3 Yba.underlying30 (by kernel_rfl) (some ⟨wr.heap.size, 0, none⟩) (some a') (L k) (L k) (L k) (C k) (by simp [Act.eval]) (by simp [Act.eval]) wr.heap.size 0 (mk0 (L k)) 3 hg.out (zc Z L k) (by rw [zc_length]; exact (Nat.min_self _).symm) hpos.out (by rw [zc_length, mk0_length]; omega) (zc_one Z L k) wr.heap.size _ (Below.refl _ _) (Nat.le_refl _) ?_; intro w4 hg4 hb4)
          all_goals
            have hN := cl_row hcl hA hlt (madeCells #[.int .i64 0] (L k)) (row_filled hg4.out) (Below.trans ((Below.refl _ _).drew) hb4)
            clear hg hpos hc2 ht1 ht2 hcl hmk30 hc' hA hg4 hb4
            go_wp2
            go_roundw
            case rel => exact ⟨k + 1, _, by omega, by go_num, hN⟩
            case measure => simp [intOf]; omega
      · obtain rfl : k = n := by omega
        have hfin := clone_fin hM hcl
        have HF : Hid _ := hfin
        clear hfin
        go_wp2
        go_ret
        exact HF.out
end Go.Proofs.Ybulkdrbg.Parts
