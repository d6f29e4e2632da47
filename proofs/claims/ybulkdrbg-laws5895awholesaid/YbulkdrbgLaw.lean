/-
  THE LAW.
-/
import Derived.Test.YbulkdrbgJoin
import Derived.Lib.SmallJoins
import Derived.Lib.Builder
namespace Go.Proofs.Ybulkdrbg.Parts
open Go.ChangeShapes Go.WideShapes Go.ChangeAt Go.RowKit

abbrev rv (A : Nat → Option Addr) (L C : Nat → Nat) (r : Nat) : Value := .slice (A r) (L r) (C r)

theorem Mat.hi {w : World} {lo hi hi' : Nat} {ao : Option Addr} {n : Nat} {A : Nat → Option Addr} {L C : Nat → Nat} {Z : Nat → Nat → Int} (h : Mat w lo hi ao n A L C Z) (hh : hi ≤ hi') : Mat w lo hi' ao n A L C Z :=
  ⟨fun r hr => by
    obtain ⟨b, o, e, h1, h2, h3⟩ := h.top r hr
    exact ⟨b, o, e, h1, by omega, h3⟩,
   fun r hr c hc => by
    obtain ⟨b, o, e, h1, h2, h3⟩ := h.row r hr c hc
    exact ⟨b, o, e, h1, by omega, h3⟩, h.nil, h.lim⟩

/-- What is known behind the join: lc (A L C Z), mc (A' L' C' Z'), their clones' rows (A1 C1; A2 C2), the joined list. -/
structure Fin (w : World) (bl bm : Nat) (aj : Option Addr) (nl nm cj : Nat) (al am b2 : Option Addr) (A : Nat → Option Addr) (L C : Nat → Nat) (Z : Nat → Nat → Int) (A' : Nat → Option Addr) (L' C' : Nat → Nat) (Z' : Nat → Nat → Int)
    (A1 : Nat → Option Addr) (C1 : Nat → Nat) (A2 : Nat → Option Addr) (C2 : Nat → Nat) : Prop where
  cl : w.cell? ⟨bl, 0, none⟩ = some (.slice aj (nl + nm) cj)
  cm : w.cell? ⟨bm, 0, none⟩ = some (.slice none 0 0)
  top : ∀ r, r < nl + nm → ∃ b o, aj = some ⟨b, o, none⟩ ∧ w.cell? ⟨b, o + r, none⟩ = some (if r < nl then rv A1 L C1 r else rv A2 L' C2 (r - nl))
  ltop : ∀ r, r < nl → ∃ b o, al = some ⟨b, o, none⟩ ∧ w.cell? ⟨b, o + r, none⟩ = some (rv A L C r)
  mtop : ∀ r, r < nm → ∃ b o, am = some ⟨b, o, none⟩ ∧ w.cell? ⟨b, o + r, none⟩ = some (rv A' L' C' r)
  btop : ∀ r, r < nm → ∃ b o, b2 = some ⟨b, o, none⟩ ∧ w.cell? ⟨b, o + r, none⟩ = some (rv A2 L' C2 r)
  lrow : ∀ r, r < nl → ∀ c, c < L r → ∃ b o, A r = some ⟨b, o, none⟩ ∧ w.cell? ⟨b, o + c, none⟩ = some (.int .i64 (Z r c))
  mrow : ∀ r, r < nm → ∀ c, c < L' r → ∃ b o, A' r = some ⟨b, o, none⟩ ∧ w.cell? ⟨b, o + c, none⟩ = some (.int .i64 (Z' r c))
  row1 : ∀ r, r < nl → ∀ c, c < L r → ∃ b o, A1 r = some ⟨b, o, none⟩ ∧ w.cell? ⟨b, o + c, none⟩ = some (.int .i64 (Z r c))
  row2 : ∀ r, r < nm → ∀ c, c < L' r → ∃ b o, A2 r = some ⟨b, o, none⟩ ∧ w.cell? ⟨b, o + c, none⟩ = some (.int .i64 (Z' r c))
  n1 : ∀ r, r < nl → (A1 r).isNone = (A r).isNone
  n2 : ∀ r, r < nm → (A2 r).isNone = (A' r).isNone
  l1 : ∀ r, r < nl → L r ≤ 1048576
  l2 : ∀ r, r < nm → L' r ≤ 1048576

def LawPost (w : World) (e : Ending) (w' : World) : Prop := e = .returned (.bool true) ∧ Below w.heap.size w w'

/-- the row of the joined world, by the chain of worlds -/
theorem fin_of {w w1 w3 w5 : World} {aj al am b1 b2 : Option Addr} {nl nm cj : Nat} {A : Nat → Option Addr} {L C : Nat → Nat} {Z : Nat → Nat → Int} {A' : Nat → Option Addr} {L' C' : Nat → Nat} {Z' : Nat → Nat → Int}
    {A1 : Nat → Option Addr} {C1 : Nat → Nat} {A2 : Nat → Option Addr} {C2 : Nat → Nat} {x1 x2 : Array Value}
    (hl : Mat w 0 w.heap.size al nl A L C Z) (hm : Mat w 0 w.heap.size am nm A' L' C' Z')
    (m1 : Mat w1 w.heap.size w1.heap.size b1 nl A1 L C1 Z) (hb1 : Below w.heap.size w w1)
    (m2 : Mat w3 (w1.heap.size + 1) w3.heap.size b2 nm A2 L' C2 Z') (hb3 : Below (w1.heap.size + 1) (w1.alloc (.cells x1 26)) w3)
    (hj : Joined w1.heap.size w3.heap.size b1 b2 nl nm (rv A1 L C1) (rv A2 L' C2) (w3.alloc (.cells x2 26)) w5 aj cj)
    (n1 : ∀ r, r < nl → (A1 r).isNone = (A r).isNone) (n2 : ∀ r, r < nm → (A2 r).isNone = (A' r).isNone) (l1 : ∀ r, r < nl → L r ≤ 1048576) (l2 : ∀ r, r < nm → L' r ≤ 1048576) :
    Fin w5 w1.heap.size w3.heap.size aj nl nm cj al am b2 A L C Z A' L' C' Z' A1 C1 A2 C2 ∧ Below w.heap.size w w5 := by
  have s1 := hb1.size
  have s3 : w1.heap.size + 1 ≤ w3.heap.size := by have := hb3.size; simpa using this
  have c3 : ∀ b o, b < w1.heap.size → w3.cell? ⟨b, o, none⟩ = w1.cell? ⟨b, o, none⟩ := fun b o h =>
    (hb3.cell (p := ⟨b, o, none⟩) (by show b < _; omega)).trans (World.cell?_alloc_past _ _ _ h)
  have c5 : ∀ b o, b < w3.heap.size → b ≠ w1.heap.size → w5.cell? ⟨b, o, none⟩ = w3.cell? ⟨b, o, none⟩ := fun b o h hn =>
    (World.cell?_of_block (w := w3.alloc (.cells x2 26)) (a := ⟨b, o, none⟩) (hj.kept.block b (by simp; omega) hn (by omega))).trans (World.cell?_alloc_past _ _ _ h)
  have old : ∀ b o, b < w.heap.size → w5.cell? ⟨b, o, none⟩ = w.cell? ⟨b, o, none⟩ := fun b o h =>
    (c5 b o (by omega) (by omega)).trans ((c3 b o (by omega)).trans (hb1.cell (p := ⟨b, o, none⟩) h))
  refine ⟨⟨hj.cl, hj.cm, hj.top, ?_, ?_, ?_, ?_, ?_, ?_, ?_, n1, n2, l1, l2⟩, ?_⟩
  · intro r hr; obtain ⟨b, o, e, _, h2, h3⟩ := hl.top r hr; exact ⟨b, o, e, (old b _ h2).trans h3⟩
  · intro r hr; obtain ⟨b, o, e, _, h2, h3⟩ := hm.top r hr; exact ⟨b, o, e, (old b _ h2).trans h3⟩
  · intro r hr; obtain ⟨b, o, e, h1, h2, h3⟩ := m2.top r hr; exact ⟨b, o, e, (c5 b _ h2 (by omega)).trans h3⟩
  · intro r hr c hc; obtain ⟨b, o, e, _, h2, h3⟩ := hl.row r hr c hc; exact ⟨b, o, e, (old b _ h2).trans h3⟩
  · intro r hr c hc; obtain ⟨b, o, e, _, h2, h3⟩ := hm.row r hr c hc; exact ⟨b, o, e, (old b _ h2).trans h3⟩
  · intro r hr c hc; obtain ⟨b, o, e, _, h2, h3⟩ := m1.row r hr c hc; exact ⟨b, o, e, (c5 b _ (by omega) (by omega)).trans ((c3 b _ h2).trans h3)⟩
  · intro r hr c hc; obtain ⟨b, o, e, h1, h2, h3⟩ := m2.row r hr c hc; exact ⟨b, o, e, (c5 b _ h2 (by omega)).trans h3⟩
  · have k := hj.kept
    refine ⟨?_, ?_, ?_, ?_, fun i hi => ?_⟩
    · rw [k.os]; exact hb3.os.trans hb1.os
    · rw [k.tape]; exact hb3.tape.trans hb1.tape
    · rw [k.output]; exact hb3.output.trans hb1.output
    · have := k.size; simp at this; omega
    · rw [k.block i (by simp; omega) (by omega) (by omega), Below.heap_alloc _ _ _ (by omega), hb3.block i (by omega), Below.heap_alloc _ _ _ (by omega), hb1.block i hi]

theorem join_here {w w1 w3 : World} {al b1 b2 : Option Addr} {nl nm : Nat} {L L' : Nat → Nat} {Z Z' : Nat → Nat → Int} {A1 : Nat → Option Addr} {C1 : Nat → Nat} {A2 : Nat → Option Addr} {C2 : Nat → Nat}
    (m1 : Mat w1 w.heap.size w1.heap.size b1 nl A1 L C1 Z) (m2 : Mat w3 (w1.heap.size + 1) w3.heap.size b2 nm A2 L' C2 Z') (hb3 : Below (w1.heap.size + 1) (w1.alloc (.cells #[.slice b1 nl nl] 26)) w3)
    (hn : nl ≤ 65536) (hm : nm ≤ 65536) (en1 : b1.isNone = al.isNone) (el : al = none → nl = 0) :
    Calls Yba.prog 6 #[.pointer (some ⟨w1.heap.size, 0, none⟩), .pointer (some ⟨w3.heap.size, 0, none⟩)] (w3.alloc (.cells #[.slice b2 nm nm] 26))
      (JoinPost w1.heap.size w3.heap.size b1 b2 nl nm (rv A1 L C1) (rv A2 L' C2) (w3.alloc (.cells #[.slice b2 nm nm] 26))) := by
  have s3 : w1.heap.size + 1 ≤ w3.heap.size := by have := hb3.size; simpa using this
  have c1 : (w3.alloc (.cells #[.slice b2 nm nm] 26)).cell? ⟨w1.heap.size, 0, none⟩ = some (.slice b1 nl nl) := by
    rw [World.cell?_alloc_past _ _ _ (by omega), hb3.cell (p := ⟨w1.heap.size, 0, none⟩) (by show w1.heap.size < _; omega)]
    simp [go_sem]
  have f1 : (w3.alloc (.cells #[.slice b2 nm nm] 26)).frozen? ⟨w1.heap.size, 0, none⟩ = false := by
    rw [frozen?_alloc_cells, hb3.frozen (p := ⟨w1.heap.size, 0, none⟩) (by show w1.heap.size < _; omega)]
    simp [go_sem]
  have c2 : (w3.alloc (.cells #[.slice b2 nm nm] 26)).cell? ⟨w3.heap.size, 0, none⟩ = some (.slice b2 nm nm) := by simp [go_sem]
  have f2 : (w3.alloc (.cells #[.slice b2 nm nm] 26)).frozen? ⟨w3.heap.size, 0, none⟩ = false := by simp [go_sem]
  have t1 : ∀ r, r < nl → ∃ b o, b1 = some ⟨b, o, none⟩ ∧ b ≠ w1.heap.size ∧ b ≠ w3.heap.size ∧ (w3.alloc (.cells #[.slice b2 nm nm] 26)).cell? ⟨b, o + r, none⟩ = some (rv A1 L C1 r) := by
    intro r hr
    obtain ⟨b, o, e, h1, h2, h3⟩ := m1.top r hr
    refine ⟨b, o, e, by omega, by omega, ?_⟩
    rw [World.cell?_alloc_past _ _ _ (by omega), hb3.cell (p := ⟨b, o + r, none⟩) (by show b < _; omega), World.cell?_alloc_past _ _ _ (by omega)]
    exact h3
  have e1 : b1 = none → nl = 0 := fun e => el (by rw [e] at en1; simpa using en1.symm)
  by_cases h0 : nm = 0
  · subst h0
    exact join_nothing _ _ b1 b2 nl nl 0 _ _ _ (by omega) hn (Nat.le_refl _) c1 c2 f1 f2 t1
  · refine join_grows _ _ b1 b2 nl nm nm _ _ _ (by omega) hn hm (by omega) c1 c2 f1 f2 (fun r hr => ?_) e1 (fun r hr => ?_) (fun r => rfl)
    · obtain ⟨b, o, e, _, _, h⟩ := t1 r hr
      exact ⟨b, o, e, h⟩
    · obtain ⟨b, o, e, h1, h2, h3⟩ := m2.top r hr
      exact ⟨b, o, e, (World.cell?_alloc_past _ _ _ h2).trans h3⟩

theorem quiet_more {P : Program} {f : FuncId} {args : Array Value} {w : World} {q n : Nat} {v : Value}
    (h : Calls P f args (w.drewN (q + n)) fun e w' => e = .returned v ∧ ∃ m, w' = (w.drewN (q + n)).drewN m) : Calls P f args (w.drewN (q + n)) fun e w'' => e = .returned v ∧ ∃ m, w'' = w.drewN (q + m) :=
  h.mono fun _ _ ⟨he, m, hm⟩ => ⟨he, n + m, by rw [hm, World.drewN_drewN, Nat.add_assoc]⟩

set_option maxHeartbeats 4000000 in
theorem law_any (al am : Option Addr) (nl c1 nm c2 : Nat) (A : Nat → Option Addr) (L C : Nat → Nat) (Z : Nat → Nat → Int) (A' : Nat → Option Addr) (L' C' : Nat → Nat) (Z' : Nat → Nat → Int) (w : World)
    (hl : Mat w 0 w.heap.size al nl A L C Z) (hm : Mat w 0 w.heap.size am nm A' L' C' Z') (el : al = none → nl = 0) (em : am = none → nm = 0) (bl : nl ≤ 9223372036854775807) (bm : nm ≤ 9223372036854775807) :
    Calls Yba.prog 3 #[.slice al nl c1, .slice am nm c2] w (LawPost w) := by
  have q22 : ∀ (w : World) (a : Option Addr) (n c n' c' : Nat), (binOp .eql 22 (.slice a n c) (.slice none n' c')).run Yba.prog w = .ok (.bool a.isNone) w := fun w a n c n' c' => Lib.run_eql_slice_nil w _ _ a n c n' c' Yba.underlying22
  have q22n : ∀ (w : World) (a : Option Addr) (n c n' c' : Nat), (binOp .neq 22 (.slice a n c) (.slice none n' c')).run Yba.prog w = .ok (.bool (!a.isNone)) w := fun w a n c n' c' => run_neq_slice_nil_any w _ _ a n c n' c' Yba.underlying22
  have q30 : ∀ (w : World) (a : Option Addr) (n c n' c' : Nat), (binOp .eql 30 (.slice a n c) (.slice none n' c')).run Yba.prog w = .ok (.bool a.isNone) w := fun w a n c n' c' => Lib.run_eql_slice_nil w _ _ a n c n' c' Yba.underlying30
  obtain ⟨i3, hi3, _, _, _⟩ := info_parts info3
  have qp : ∀ (w : World) (a : Addr), (binOp .neq 31 (.pointer (some a)) (.pointer (some a))).run Yba.prog w = .ok (.bool false) w := fun w a => Lib.run_neq_ptr_same w a Yba.underlying31 hi3
  clear hi3
  have S1 : Hid (Calls Yba.prog 4 #[.slice al nl c1] w (SmallPost nl L w)) := small_any al nl c1 A L C Z w hl bl
  have S2 : Hid (Calls Yba.prog 4 #[.slice am nm c2] w (SmallPost nm L' w)) := small_any am nm c2 A' L' C' Z' w hm bm
  go_enter Yba.func3, Yba.ntmps3
  go_wp2_with fail
  refine S1.out.mono ?_
  rintro e w' ⟨b, rfl, rfl, hsm⟩
  cases b with
  | false =>
    go_wp2_with fail
    go_ret
    exact ⟨rfl, Below.refl _ _⟩
  | true =>
    obtain ⟨bl', l1⟩ := hsm rfl
    clear hsm S1
    go_wp2_with fail
    refine S2.out.mono ?_
    rintro e w' ⟨b, rfl, rfl, hsm⟩
    cases b with
    | false =>
      go_wp2_with fail
      go_ret
      exact ⟨rfl, Below.refl _ _⟩
    | true =>
      obtain ⟨bm', l2⟩ := hsm rfl
      clear hsm S2
      have T1 : Hid (Calls Yba.prog 5 #[.slice al nl c1] w (ClonePost w al nl A L Z)) := clone_any al nl c1 A L C Z w hl bl' l1 el
      go_wp2_with fail
      refine T1.out.mono ?_
      rintro e w1 ⟨b1, A1, C1, rfl, m1, hb1, en1, n1⟩
      clear T1
      have s1 := hb1.size
      have hm2 : Mat (w1.alloc (.cells #[.slice b1 nl nl] 26)) 0 (w1.alloc (.cells #[.slice b1 nl nl] 26)).heap.size am nm A' L' C' Z' :=
        (hm.below (hb1.alloc (by omega) _)).hi (by simp; omega)
      have T2 : Hid (Calls Yba.prog 5 #[.slice am nm c2] (w1.alloc (.cells #[.slice b1 nl nl] 26)) (ClonePost (w1.alloc (.cells #[.slice b1 nl nl] 26)) am nm A' L' Z')) := clone_any am nm c2 A' L' C' Z' _ hm2 bm' l2 em
      clear hm2
      go_wp2_with fail
      refine T2.out.mono ?_
      rintro e w3 ⟨b2, A2, C2, rfl, m2, hb3, en2, n2⟩
      clear T2
      have hsz : (w1.alloc (.cells #[.slice b1 nl nl] 26)).heap.size = w1.heap.size + 1 := by simp
      rw [hsz] at m2 hb3
      clear hsz
      have T3 : Hid (Calls Yba.prog 6 #[.pointer (some ⟨w1.heap.size, 0, none⟩), .pointer (some ⟨w3.heap.size, 0, none⟩)] (w3.alloc (.cells #[.slice b2 nm nm] 26))
        (JoinPost w1.heap.size w3.heap.size b1 b2 nl nm (rv A1 L C1) (rv A2 L' C2) (w3.alloc (.cells #[.slice b2 nm nm] 26)))) := join_here m1 m2 hb3 bl' bm' en1 el
      go_wp2_with fail
      refine T3.out.mono ?_
      rintro e w5 ⟨aj, cj, rfl, hj⟩
      clear T3
      obtain ⟨F, HB⟩ := fin_of hl hm m1 hb1 m2 hb3 hj n1 n2 l1 l2
      have hjn : aj.isNone = (al.isNone && ((nm : Int) == 0)) := by
        have h := hj.nil
        rw [en1] at h
        rw [h]
        have e : ((nm : Int) == 0) = (nm == 0) := by rw [Bool.eq_iff_iff]; simp
        rw [e]
      have g1 := F.cl
      have g2 := F.cm
      have hbs : Hid (Below w.heap.size w w5) := HB
      clear HB hj m1 m2 hb1 hb3 n1 n2 l1 l2 hl hm en1 en2 el em s1 bl bm
      have E1 : Hid (∀ k, k < nl → ∀ W : World, W.heap = w5.heap → Calls Yba.prog 7 #[.slice (A1 k) (L k) (C1 k), .slice (A k) (L k) (C k)] W fun e w' => e = .returned (.bool true) ∧ ∃ nq, w' = W.drewN nq) := by
        intro k hk W hW
        have hc : ∀ a, W.cell? a = w5.cell? a := fun a => by simp [World.cell?, hW]
        refine eq_any _ _ _ _ _ (Z k) W (by have := F.l1 k hk; omega) (F.n1 k hk) (fun c hcc => ?_) (fun c hcc => ?_)
        · obtain ⟨b, o, e, h⟩ := F.row1 k hk c hcc; exact ⟨b, o, e, by rw [hc]; exact h⟩
        · obtain ⟨b, o, e, h⟩ := F.lrow k hk c hcc; exact ⟨b, o, e, by rw [hc]; exact h⟩
      have E2 : Hid (∀ k, k < nm → ∀ W : World, W.heap = w5.heap → Calls Yba.prog 7 #[.slice (A2 k) (L' k) (C2 k), .slice (A' k) (L' k) (C' k)] W fun e w' => e = .returned (.bool true) ∧ ∃ nq, w' = W.drewN nq) := by
        intro k hk W hW
        have hc : ∀ a, W.cell? a = w5.cell? a := fun a => by simp [World.cell?, hW]
        refine eq_any _ _ _ _ _ (Z' k) W (by have := F.l2 k hk; omega) (F.n2 k hk) (fun c hcc => ?_) (fun c hcc => ?_)
        · obtain ⟨b, o, e, h⟩ := F.row2 k hk c hcc; exact ⟨b, o, e, by rw [hc]; exact h⟩
        · obtain ⟨b, o, e, h⟩ := F.mrow k hk c hcc; exact ⟨b, o, e, by rw [hc]; exact h⟩
      have HF : Hid (Fin w5 w1.heap.size w3.heap.size aj nl nm cj al am b2 A L C Z A' L' C' Z' A1 C1 A2 C2) := F
      clear F
      cases hal : al.isNone
      all_goals
        rw [hal] at hjn
        simp only [Bool.true_and, Bool.false_and] at hjn
        go_wp2_with fail
        clear hjn hal
        go_loopw [60] (fun i wr => ∃ (k nq : Nat), k ≤ nl ∧ i = .int .i64 k ∧ wr = w5.drewN nq) (fun i _ => nl - (intOf i).toNat)
        case atStart => exact ⟨0, 0, by omega, rfl, rfl⟩
        case round =>
          obtain ⟨k, nq, hk, rfl, rfl⟩ := hrel
          by_cases hlt : k < nl
          · obtain ⟨bj, oj, rfl, hc⟩ := HF.out.top k (by omega)
            rw [if_pos hlt] at hc
            obtain ⟨ba, oa, rfl, hd⟩ := HF.out.ltop k hlt
            have hix : (k : Int) < (nl : Int) + (nm : Int) := by omega
            go_wp2_with fail
            go_quiet ((go_at_call 7; refine quiet_more (E1.out k hlt _ ?_); rfl))
            go_wp2_with fail
            go_roundw
            case rel => exact ⟨k + 1, _, by omega, by go_num, rfl⟩
            case measure => simp [intOf]; omega
          · clear hk
            go_wp2_with fail
            go_loopw [77] (fun i wr => ∃ (j mq : Nat), j ≤ nm ∧ i = .int .i64 j ∧ wr = w5.drewN mq) (fun i _ => nm - (intOf i).toNat)
            case atStart => exact ⟨0, nq, by omega, rfl, rfl⟩
            case round =>
              obtain ⟨j, mq, hj, rfl, rfl⟩ := hrel
              by_cases hlt2 : j < nm
              · obtain ⟨bj, oj, rfl, hc⟩ := HF.out.top (nl + j) (by omega)
                rw [if_neg (by omega), show nl + j - nl = j by omega] at hc
                obtain ⟨ba, oa, rfl, hd⟩ := HF.out.mtop j hlt2
                obtain ⟨bb, ob, rfl, he⟩ := HF.out.btop j hlt2
                have hl2 := HF.out.l2 j hlt2
                have hix : (nl : Int) + (j : Int) < (nl : Int) + (nm : Int) := by omega
                have E2j := E2.out j hlt2
                simp only [rv] at hc he hd
                by_cases h0 : 0 < L' j
                · obtain ⟨br, or, hA2, _⟩ := HF.out.row2 j hlt2 0 h0
                  have h0' : (0 : Int) < (L' j : Int) := by omega
                  rw [hA2] at hc he E2j
                  have HE2 : Hid _ := E2j
                  clear E2j hA2
                  go_wp2_with fail
                  go_quiet (fail)
                  go_wp2_with fail
                  refine (HE2.out _ ?_).mono ?_
                  · rfl
                  rintro e w' ⟨rfl, nq2, rfl⟩
                  go_wp2_with fail
                  go_roundw
                  case rel => exact ⟨j + 1, _, by omega, by go_num, rfl⟩
                  case measure => simp [intOf]; omega
                · have hd0 : decide ((0 : Int) < (L' j : Int)) = false := by simp; omega
                  have HE2 : Hid _ := E2j
                  clear E2j
                  go_wp2_with fail
                  go_quiet (fail)
                  go_wp2_with fail
                  refine (HE2.out _ ?_).mono ?_
                  · rfl
                  rintro e w' ⟨rfl, nq2, rfl⟩
                  go_wp2_with fail
                  go_roundw
                  case rel => exact ⟨j + 1, _, by omega, by go_num, rfl⟩
                  case measure => simp [intOf]; omega
              · go_wp2_with fail
                go_ret
                exact ⟨rfl, hbs.out.trans (Joins.below_draws _ _ _)⟩
end Go.Proofs.Ybulkdrbg.Parts
