/-
  object.find by its contract.
-/
import Derived.Test.YbulkdrdkValue
namespace Go.Proofs.Ybulkdrdk.Parts
open Go.ChangeShapes Go.WideShapes Go.ChangeAt Go.RowKit
set_option linter.unusedVariables false

/-- n members at the head of block bm: each name and each value a slice of bytes of its own -/
structure Mem (W : World) (bm n : Nat) (A B C D : Nat → Nat) (Ns Vs : Nat → ByteArray) : Prop where
  nm : ∀ i, i < n → W.cell? ⟨bm, i * 2, none⟩ = some (.slice (some ⟨A i, 0, none⟩) (Ns i).size (C i))
  vl : ∀ i, i < n → W.cell? ⟨bm, i * 2 + 1, none⟩ = some (.slice (some ⟨B i, 0, none⟩) (Vs i).size (D i))
  nb : ∀ i, i < n → Lib.Bytes W (A i) 0 (Ns i)
  vb : ∀ i, i < n → Lib.Bytes W (B i) 0 (Vs i)
  al : ∀ i, i < n → A i < W.heap.size ∧ B i < W.heap.size
  lt : bm < W.heap.size

theorem Mem.keep {W W' : World} {bm n : Nat} {A B C D : Nat → Nat} {Ns Vs : Nat → ByteArray} (h : Mem W bm n A B C D Ns Vs) (hs : W.heap.size ≤ W'.heap.size) (hm : W'.heap[bm]? = W.heap[bm]?) (ha : ∀ i, i < n → W'.heap[A i]? = W.heap[A i]? ∧ W'.heap[B i]? = W.heap[B i]?) : Mem W' bm n A B C D Ns Vs := by
  have z := h.lt
  refine ⟨fun i hi => ?_, fun i hi => ?_, fun i hi j hj => ?_, fun i hi j hj => ?_, fun i hi => ?_, by omega⟩
  · exact (World.cell?_of_block (w := W) (a := ⟨bm, i * 2, none⟩) hm).trans (h.nm i hi)
  · exact (World.cell?_of_block (w := W) (a := ⟨bm, i * 2 + 1, none⟩) hm).trans (h.vl i hi)
  · exact (World.cell?_of_block (w := W) (a := ⟨A i, 0 + j, none⟩) (ha i hi).1).trans (h.nb i hi j hj)
  · exact (World.cell?_of_block (w := W) (a := ⟨B i, 0 + j, none⟩) (ha i hi).2).trans (h.vb i hi j hj)
  · have := h.al i hi
    omega

theorem Mem.mono {W W' : World} {bm n : Nat} {A B C D : Nat → Nat} {Ns Vs : Nat → ByteArray} (h : Mem W bm n A B C D Ns Vs) (hb : Below W.heap.size W W') : Mem W' bm n A B C D Ns Vs :=
  h.keep hb.size (hb.block _ h.lt) (fun i hi => ⟨hb.block _ (h.al i hi).1, hb.block _ (h.al i hi).2⟩)

theorem bytes_back {W : World} {b c : Nat} {s : ByteArray} (h : Lib.Bytes W b 0 s) : (convert 28 9 (.slice (some ⟨b, 0, none⟩) s.size c)).run Yba.prog W = .ok (.string s) W :=
  Lib.run_convert_whole W 28 5 9 Yba.underlying28 Yba.underlying5 Yba.underlying9 b 0 s h c

theorem str_ne {a b : ByteArray} (h : ¬ a = b) : (a.toList == b.toList) = false := by
  rw [beq_eq_false_iff_ne, ByteArray.toList_eq, ByteArray.toList_eq]
  intro e
  exact h (bytes_inj e)

def FindPost (W : World) (n : Nat) (A B C D : Nat → Nat) (Ns Vs : Nat → ByteArray) (name : ByteArray) (e : Ending) (w' : World) : Prop :=
  ∃ v, e = .returned v ∧ Below W.heap.size W w' ∧
    ((∃ i, i < n ∧ Ns i = name ∧ (∀ j, j < i → ¬ Ns j = name) ∧ v = .tuple #[.agg #[.slice (some ⟨A i, 0, none⟩) (Ns i).size (C i), .slice (some ⟨B i, 0, none⟩) (Vs i).size (D i)], .bool true]) ∨
     ((∀ j, j < n → ¬ Ns j = name) ∧ v = .tuple #[.agg #[.slice none 0 0, .slice none 0 0], .bool false]))

structure FB (W wr : World) : Prop where
  below : Below W.heap.size W wr
  box : wr.heap[W.heap.size]? = some (.cells #[.slice none 0 0, .slice none 0 0] 30)

theorem FB.more {W wr : World} (h : FB W wr) (o : Obj) : FB W (wr.alloc o) := by
  have z := h.below.size
  have z2 := (Array.getElem?_eq_some_iff.1 h.box).1
  exact ⟨h.below.alloc z _, by rw [Below.heap_alloc _ _ _ z2]; exact h.box⟩

theorem fb_ret {W wr : World} (h : FB W wr) (x y : Value) (hx : x.oneCell' = true) (hy : y.oneCell' = true) : Below W.heap.size W ((wr.setCell ⟨W.heap.size, 0, none⟩ x).setCell ⟨W.heap.size, 1, none⟩ y) ∧ ((wr.setCell ⟨W.heap.size, 0, none⟩ x).setCell ⟨W.heap.size, 1, none⟩ y).heap[W.heap.size]? = some (.cells #[x, y] 30) := by
  refine ⟨(h.below.setCell (p := ⟨W.heap.size, 0, none⟩) (Nat.le_refl _) _).setCell (p := ⟨W.heap.size, 1, none⟩) (Nat.le_refl _) _, ?_⟩
  rw [heap_setCell_same _ _ _ _ _ _ (heap_setCell_same _ _ _ _ _ _ h.box)]
  simp

theorem box_cells {V : World} {b : Nat} {x y : Value} (h : V.heap[b]? = some (.cells #[x, y] 30)) : V.cell? ⟨b, 0, none⟩ = some x ∧ V.cell? ⟨b, 1, none⟩ = some y := by
  constructor <;> simp [World.cell?, h]

set_option maxRecDepth 100000 in
theorem find_any (W : World) (bF bm n c : Nat) (A B C D : Nat → Nat) (Ns Vs : Nat → ByteArray) (name : ByteArray) (h0 : W.cell? ⟨bF, 0, none⟩ = some (.slice (some ⟨bm, 0, none⟩) n c)) (hM : Mem W bm n A B C D Ns Vs) (hn : (n : Int) ≤ 140737488355328) :
    Calls Yba.prog 16 #[.pointer (some ⟨bF, 0, none⟩), .string name] W (FindPost W n A B C D Ns Vs name) := by
  have HM : Hid (Mem W bm n A B C D Ns Vs) := hM
  have zF : bF < W.heap.size := World.block_lt_of_cell? _ ⟨bF, 0, none⟩ h0
  have zm := hM.lt
  clear hM
  go_enter Yba.func16, Yba.ntmps16
  go_wp2_with fail
  have hfb0 : FB W (W.alloc (.cells #[.slice none 0 0, .slice none 0 0] 30)) := ⟨(Below.refl _ _).alloc (Nat.le_refl _) _, Deep.blk_alloc_new _ _⟩
  go_loopw [13] (fun i wr => ∃ k : Nat, k ≤ n ∧ i = .int .i64 k ∧ Hid (∀ j, j < k → ¬ Ns j = name) ∧ Hid (FB W wr)) (fun i _ => n - (intOf i).toNat)
  case atStart => exact ⟨0, by omega, rfl, fun j hj => by omega, hfb0⟩
  case round =>
    obtain ⟨k, hk, rfl, hno, HB⟩ := hrel
    have zr : W.heap.size < wr.heap.size := (Array.getElem?_eq_some_iff.1 HB.out.box).1
    have b0 : wr.cell? ⟨W.heap.size, 0, none⟩ = some (.slice none 0 0) := by simp [World.cell?, HB.out.box]
    have b1 : wr.cell? ⟨W.heap.size, 1, none⟩ = some (.slice none 0 0) := by simp [World.cell?, HB.out.box]
    have g0 : wr.frozen? ⟨W.heap.size, 0, none⟩ = false := by simp [World.frozen?, HB.out.box]
    have g1 : wr.frozen? ⟨W.heap.size, 1, none⟩ = false := by simp [World.frozen?, HB.out.box]
    by_cases hlt : k < n
    · have HM2 : Hid (Mem wr bm n A B C D Ns Vs) := HM.out.mono HB.out.below
      have x0 := HM2.out.nm k hlt
      have x1 := HM2.out.vl k hlt
      have hcv : ∀ o, (convert 28 9 (.slice (some ⟨A k, 0, none⟩) (Ns k).size (C k))).run Yba.prog (wr.alloc o) = .ok (.string (Ns k)) (wr.alloc o) := fun o =>
        bytes_back ((HM2.out.mono ((Below.refl _ _).alloc (Nat.le_refl _) _)).nb k hlt)
      by_cases he : Ns k = name
      · have he2 : ((Ns k).toList == name.toList) = true := by rw [he]; simp
        have HE : Hid (Ns k = name) := he
        clear he
        go_wp2_with fail
        obtain ⟨hbV, hhV⟩ := fb_ret HB.out (.slice (some ⟨A k, 0, none⟩) (Ns k).size (C k)) (.slice (some ⟨B k, 0, none⟩) (Vs k).size (D k)) rfl rfl
        generalize (wr.setCell ⟨W.heap.size, 0, none⟩ _).setCell ⟨W.heap.size, 1, none⟩ _ = V at hbV hhV ⊢
        have zV : W.heap.size < V.heap.size := (Array.getElem?_eq_some_iff.1 hhV).1
        obtain ⟨y0, y1⟩ := box_cells hhV
        refine bodyPost_ret (v := .tuple #[.agg #[.slice (some ⟨A k, 0, none⟩) (Ns k).size (C k), .slice (some ⟨B k, 0, none⟩) (Vs k).size (D k)], .bool true]) (by simp [results, Yba.results16, go_sem, World.cell?_alloc_past, zV, y0, y1]) rfl ?_
        exact ⟨_, rfl, hbV.alloc (by omega) _, Or.inl ⟨k, hlt, HE.out, hno.out, rfl⟩⟩
      · have he2 := str_ne he
        go_wp2_with fail
        go_roundw
        case rel => exact ⟨k + 1, by omega, by go_num, fun j hj => by
            by_cases e : j < k
            · exact hno.out j e
            · obtain rfl : j = k := by omega
              exact he, HB.out.more _⟩
        case measure => simp [intOf]; omega
    · obtain rfl : k = n := by omega
      clear hk hlt
      go_wp2_with fail
      obtain ⟨hbV, hhV⟩ := fb_ret HB.out (.slice none 0 0) (.slice none 0 0) rfl rfl
      generalize (wr.setCell ⟨W.heap.size, 0, none⟩ _).setCell ⟨W.heap.size, 1, none⟩ _ = V at hbV hhV ⊢
      obtain ⟨y0, y1⟩ := box_cells hhV
      refine bodyPost_ret (v := .tuple #[.agg #[.slice none 0 0, .slice none 0 0], .bool false]) (by simp [results, Yba.results16, go_sem, y0, y1]) rfl ?_
      exact ⟨_, rfl, hbV, Or.inr ⟨hno.out, rfl⟩⟩
end Go.Proofs.Ybulkdrdk.Parts
