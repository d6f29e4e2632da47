/-
  fields.integer and fields.atLeast by their contracts.
-/
import Derived.Test.YbulkdrdkFind
import Derived.Lib.BufferRead
namespace Go.Proofs.Ybulkdrdk.Parts
open Go.ChangeShapes Go.WideShapes Go.ChangeAt Go.RowKit
set_option linter.unusedVariables false

/-- the text that belongs to the name -/
def Found (n : Nat) (Ns Vs : Nat → ByteArray) (name t : ByteArray) : Prop :=
  (∃ i, i < n ∧ Ns i = name ∧ (∀ j, j < i → ¬ Ns j = name) ∧ t = Vs i) ∨ ((∀ j, j < n → ¬ Ns j = name) ∧ t = ByteArray.empty)

theorem Found.uniq {n : Nat} {Ns Vs : Nat → ByteArray} {name t t' : ByteArray} (h : Found n Ns Vs name t) (h' : Found n Ns Vs name t') : t = t' := by
  rcases h with ⟨i, hi, he, hf, rfl⟩ | ⟨hf, rfl⟩ <;> rcases h' with ⟨i', hi', he', hf', rfl⟩ | ⟨hf', rfl⟩
  · rcases Nat.lt_trichotomy i i' with h | h | h
    · exact absurd he (hf' i h)
    · rw [h]
    · exact absurd he' (hf i' h)
  · exact absurd he (hf' i hi)
  · exact absurd he' (hf i' hi')
  · rfl

theorem PRes.form {neg : Bool} {d : ByteArray} {v : Value} (h : PRes neg d v) : ∃ a ok fits, v = .tuple #[.int .i64 a, .bool ok, .bool fits] := by
  by_cases h1 : Bad d
  · exact ⟨_, _, _, h.bad h1⟩
  · by_cases h2 : Big neg d
    · exact ⟨_, _, _, h.big h1 h2⟩
    · exact ⟨_, _, _, h.fit h1 h2⟩

/-- all but one block is as it was -/
structure Kept (W w' : World) (b : Nat) : Prop where
  os : w'.os = W.os
  tape : w'.tape = W.tape
  output : w'.output = W.output
  size : W.heap.size ≤ w'.heap.size
  block : ∀ k, k < W.heap.size → k ≠ b → w'.heap[k]? = W.heap[k]?

theorem Kept.of_below {W w' : World} (b : Nat) (h : Below W.heap.size W w') : Kept W w' b := ⟨h.os, h.tape, h.output, h.size, fun k hk _ => h.block k hk⟩
theorem Kept.set {W w' : World} {b : Nat} (h : Kept W w' b) (o : Nat) (v : Value) : Kept W (w'.setCell ⟨b, o, none⟩ v) b :=
  ⟨h.os, h.tape, h.output, by rw [Deep.nblk_setCell]; exact h.size, fun k hk hne => by rw [Below.heap_setCell _ _ _ _ hne]; exact h.block k hk hne⟩
theorem Kept.alloc {W w' : World} {b : Nat} (h : Kept W w' b) (o : Obj) : Kept W (w'.alloc o) b :=
  ⟨h.os, h.tape, h.output, by have := h.size; simp; omega, fun k hk hne => by rw [Below.heap_alloc _ _ _ (by have := h.size; omega)]; exact h.block k hk hne⟩
theorem Kept.trans {W w1 w2 : World} {b : Nat} (h : Kept W w1 b) (h2 : Kept w1 w2 b) : Kept W w2 b :=
  ⟨h2.os.trans h.os, h2.tape.trans h.tape, h2.output.trans h.output, Nat.le_trans h.size h2.size, fun k hk hne => (h2.block k (by have := h.size; omega) hne).trans (h.block k hk hne)⟩

def Fld (W : World) (bF : Nat) (M : Value) (id op : ByteArray) (tm : Int) (mal inv : Bool) : Prop := W.heap[bF]? = some (.cells #[M, .string id, .string op, .int .i64 tm, .bool mal, .bool inv] 35)

theorem Fld.cells {W : World} {bF : Nat} {M : Value} {id op : ByteArray} {tm : Int} {mal inv : Bool} (h : Fld W bF M id op tm mal inv) : W.cell? ⟨bF, 0, none⟩ = some M ∧ W.cell? ⟨bF, 1, none⟩ = some (.string id) ∧ W.cell? ⟨bF, 2, none⟩ = some (.string op) ∧ W.cell? ⟨bF, 3, none⟩ = some (.int .i64 tm) ∧ W.cell? ⟨bF, 4, none⟩ = some (.bool mal) ∧ W.cell? ⟨bF, 5, none⟩ = some (.bool inv) := by
  unfold Fld at h
  refine ⟨?_, ?_, ?_, ?_, ?_, ?_⟩ <;> simp [World.cell?, h]
theorem Fld.frozen {W : World} {bF : Nat} {M : Value} {id op : ByteArray} {tm : Int} {mal inv : Bool} (h : Fld W bF M id op tm mal inv) (o : Nat) : W.frozen? ⟨bF, o, none⟩ = false := by
  unfold Fld at h
  simp [World.frozen?, h]
theorem Fld.lt {W : World} {bF : Nat} {M : Value} {id op : ByteArray} {tm : Int} {mal inv : Bool} (h : Fld W bF M id op tm mal inv) : bF < W.heap.size := (Array.getElem?_eq_some_iff.1 h).1
theorem Fld.set4 {W : World} {bF : Nat} {M : Value} {id op : ByteArray} {tm : Int} {mal inv : Bool} (h : Fld W bF M id op tm mal inv) (b : Bool) : Fld (W.setCell ⟨bF, 4, none⟩ (.bool b)) bF M id op tm b inv := by
  unfold Fld at h ⊢
  rw [Go.heap_setCell_same _ _ _ _ _ _ h]
  simp
theorem Fld.set5 {W : World} {bF : Nat} {M : Value} {id op : ByteArray} {tm : Int} {mal inv : Bool} (h : Fld W bF M id op tm mal inv) (b : Bool) : Fld (W.setCell ⟨bF, 5, none⟩ (.bool b)) bF M id op tm mal b := by
  unfold Fld at h ⊢
  rw [Go.heap_setCell_same _ _ _ _ _ _ h]
  simp

theorem fld_alloc {W : World} {bF : Nat} {M : Value} {id op : ByteArray} {tm : Int} {mal inv : Bool} (h : Fld W bF M id op tm mal inv) (o : Obj) : Fld (W.alloc o) bF M id op tm mal inv :=
  (Below.heap_alloc _ _ _ h.lt).trans h

def IntPost (W : World) (bF : Nat) (M : Value) (n : Nat) (Ns Vs : Nat → ByteArray) (name id op : ByteArray) (tm : Int) (mal inv : Bool) (e : Ending) (w' : World) : Prop :=
  ∃ t a ok fits, Found n Ns Vs name t ∧ PRes (negOf t) (digOf t) (tup a ok fits) ∧ e = .returned (.tuple #[.int .i64 a, .bool fits, .bool ok]) ∧ Kept W w' bF ∧ Fld w' bF M id op tm (mal || !ok) inv

set_option maxRecDepth 100000 in
theorem integer_any (W : World) (bF bm n c : Nat) (A B C D : Nat → Nat) (Ns Vs : Nat → ByteArray) (name id op : ByteArray) (tm : Int) (mal inv : Bool) (hF : Fld W bF (.slice (some ⟨bm, 0, none⟩) n c) id op tm mal inv) (hM : Mem W bm n A B C D Ns Vs) (hn : (n : Int) ≤ 140737488355328)
    (hV : ∀ i, i < n → ((Vs i).size : Int) ≤ 140737488355328) :
    Calls Yba.prog 11 #[.pointer (some ⟨bF, 0, none⟩), .string name] W (IntPost W bF (.slice (some ⟨bm, 0, none⟩) n c) n Ns Vs name id op tm mal inv) := by
  have HF : Hid (Fld W bF (.slice (some ⟨bm, 0, none⟩) n c) id op tm mal inv) := hF
  have HM : Hid (Mem W bm n A B C D Ns Vs) := hM
  have zF := hF.lt
  have HFind : Hid (Calls Yba.prog 16 #[.pointer (some ⟨bF, 0, none⟩), .string name] W (FindPost W n A B C D Ns Vs name)) := find_any W bF bm n c A B C D Ns Vs name hF.cells.1 hM hn
  have HV : Hid (∀ i, i < n → ((Vs i).size : Int) ≤ 140737488355328) := hV
  clear hF hM hV
  go_enter Yba.func11, Yba.ntmps11
  go_wp2_with fail
  refine HFind.out.mono ?_
  rintro e w1 ⟨v, rfl, hb, ⟨i, hi, hni, hfi, rfl⟩ | ⟨hfi, rfl⟩⟩
  · have Hcv : ∀ o, (convert 28 9 (.slice (some ⟨B i, 0, none⟩) (Vs i).size (D i))).run Yba.prog (w1.alloc o) = .ok (.string (Vs i)) (w1.alloc o) := fun o =>
      bytes_back (((HM.out.mono hb).mono ((Below.refl _ _).alloc (Nat.le_refl _) _)).vb i hi)
    have Hni : Hid (Ns i = name) := hni
    have Hb : Hid (Below W.heap.size W w1) := hb
    have HF1 : Hid (Fld w1 bF (.slice (some ⟨bm, 0, none⟩) n c) id op tm mal inv) := (hb.block _ zF).trans HF.out
    have q4 := HF1.out.cells.2.2.2.2.1
    have g4 := HF1.out.frozen 4
    have zW := hb.size
    have z1 := HF1.out.lt
    clear hni hb
    go_wp2_with fail
    refine (read17 _ _ (HV.out i hi)).mono ?_
    rintro e w2 ⟨v, rfl, hres, rfl⟩
    obtain ⟨a, ok, fits, rfl⟩ := hres.form
    have Hres : Hid (PRes (negOf (Vs i)) (digOf (Vs i)) (tup a ok fits)) := hres
    clear hres
    cases ok
    · go_wp2_with fail
      go_ret3
      exact ⟨Vs i, a, false, fits, Or.inl ⟨i, hi, Hni.out, hfi, rfl⟩, Hres.out, rfl, ((Kept.of_below bF Hb.out).set 4 _).alloc _, by simpa using fld_alloc (HF1.out.set4 true) _⟩
    · go_wp2_with fail
      go_ret3
      exact ⟨Vs i, a, true, fits, Or.inl ⟨i, hi, Hni.out, hfi, rfl⟩, Hres.out, rfl, Kept.of_below bF (Hb.out.alloc zW _), by simpa using fld_alloc HF1.out _⟩
  · have Hcv : ∀ o, (convert 28 9 (.slice none 0 0)).run Yba.prog (w1.alloc o) = .ok (.string ByteArray.empty) (w1.alloc o) := fun o => Lib.run_convert_nil_bytes (w1.alloc o) 28 9 5 0 Yba.underlying28 Yba.underlying5 Yba.underlying9
    have Hb : Hid (Below W.heap.size W w1) := hb
    have HF1 : Hid (Fld w1 bF (.slice (some ⟨bm, 0, none⟩) n c) id op tm mal inv) := (hb.block _ zF).trans HF.out
    have q4 := HF1.out.cells.2.2.2.2.1
    have g4 := HF1.out.frozen 4
    have zW := hb.size
    have z1 := HF1.out.lt
    clear hb
    go_wp2_with fail
    refine (read17 _ _ (by decide)).mono ?_
    rintro e w2 ⟨v, rfl, hres, rfl⟩
    obtain ⟨a, ok, fits, rfl⟩ := hres.form
    have Hres : Hid (PRes (negOf (ByteArray.empty)) (digOf (ByteArray.empty)) (tup a ok fits)) := hres
    clear hres
    cases ok
    · go_wp2_with fail
      go_ret3
      exact ⟨ByteArray.empty, a, false, fits, Or.inr ⟨hfi, rfl⟩, Hres.out, rfl, ((Kept.of_below bF Hb.out).set 4 _).alloc _, by simpa using fld_alloc (HF1.out.set4 true) _⟩
    · go_wp2_with fail
      go_ret3
      exact ⟨ByteArray.empty, a, true, fits, Or.inr ⟨hfi, rfl⟩, Hres.out, rfl, Kept.of_below bF (Hb.out.alloc zW _), by simpa using fld_alloc HF1.out _⟩

def AtPost (W : World) (bF : Nat) (M : Value) (n : Nat) (Ns Vs : Nat → ByteArray) (name id op : ByteArray) (tm least : Int) (mal inv : Bool) (e : Ending) (w' : World) : Prop :=
  ∃ t a ok fits, Found n Ns Vs name t ∧ PRes (negOf t) (digOf t) (tup a ok fits) ∧ e = .returned (.int .i64 a) ∧ Kept W w' bF ∧ Fld w' bF M id op tm (mal || !ok) (inv || (ok && (!fits || decide (a < least))))

set_option maxRecDepth 100000 in
theorem atLeast_any (W : World) (bF bm n c : Nat) (A B C D : Nat → Nat) (Ns Vs : Nat → ByteArray) (name id op : ByteArray) (tm least : Int) (mal inv : Bool) (hF : Fld W bF (.slice (some ⟨bm, 0, none⟩) n c) id op tm mal inv) (hM : Mem W bm n A B C D Ns Vs) (hn : (n : Int) ≤ 140737488355328)
    (hV : ∀ i, i < n → ((Vs i).size : Int) ≤ 140737488355328) :
    Calls Yba.prog 6 #[.pointer (some ⟨bF, 0, none⟩), .string name, .int .i64 least] W (AtPost W bF (.slice (some ⟨bm, 0, none⟩) n c) n Ns Vs name id op tm least mal inv) := by
  have HI : Hid (Calls Yba.prog 11 #[.pointer (some ⟨bF, 0, none⟩), .string name] W (IntPost W bF (.slice (some ⟨bm, 0, none⟩) n c) n Ns Vs name id op tm mal inv)) := integer_any W bF bm n c A B C D Ns Vs name id op tm mal inv hF hM hn hV
  clear hF hM hV
  go_enter Yba.func6, Yba.ntmps6
  go_wp2_with fail
  refine HI.out.mono ?_
  rintro e w1 ⟨t, a, ok, fits, hfound, hres, rfl, hk, hF⟩
  have HT : Hid (Found n Ns Vs name t) := hfound
  have HR : Hid (PRes (negOf t) (digOf t) (tup a ok fits)) := hres
  have HK : Hid (Kept W w1 bF) := hk
  have HF : Hid (Fld w1 bF (.slice (some ⟨bm, 0, none⟩) n c) id op tm (mal || !ok) inv) := hF
  have q5 := hF.cells.2.2.2.2.2
  have g5 := hF.frozen 5
  have z1 := hF.lt
  clear hfound hres hk hF
  cases ok
  · go_wp2_with fail
    go_ret
    exact ⟨t, a, false, fits, HT.out, HR.out, rfl, HK.out, by simpa using HF.out⟩
  · cases fits
    · go_wp2_with fail
      go_ret
      exact ⟨t, a, true, false, HT.out, HR.out, rfl, HK.out.set 5 _, by simpa using HF.out.set5 true⟩
    · by_cases hl : a < least
      · go_wp2_with fail
        go_ret
        exact ⟨t, a, true, true, HT.out, HR.out, rfl, HK.out.set 5 _, by have e : decide (a < least) = true := decide_eq_true (by omega); simpa [e] using HF.out.set5 true⟩
      · go_wp2_with fail
        go_ret
        exact ⟨t, a, true, true, HT.out, HR.out, rfl, HK.out, by have e : decide (a < least) = false := decide_eq_false (by omega); simpa [e] using HF.out⟩
end Go.Proofs.Ybulkdrdk.Parts
