/-
  'add' by its contract.
-/
import Derived.Test.YbulkdqzcCWith
import Derived.Conc.MuLone
namespace Go.Proofs.Ybulkdqzc.PartsC
open Go.ChangeShapes Go.WideShapes Go.ChangeAt Go.RowKit

/-- a call of a Go function, by its contract, as one step of a region that draws its order -/
theorem step_call {P : Program} {ops : Array Oper} {o : Oper} {a : Act} {w : World} {K : Act → World → Prop} {Q : Exit → Act → World → Prop} {E : Prop}
    (hg : o.guard = none) (f : FuncId) (s : Array Operand) (ts : Array TypeId) (hop : o.op = Op.call { callee := Callee.value (Operand.func f), args := s, argTypes := ts })
    (fn : Func) (c : Code) (hf : P.funcs[f]? = some fn) (hname : (fn.name == "runtime.NumGoroutine") = false) (hb : fn.body = some c)
    (vals : Array Value) (hvals : s.map a.eval = vals) (post : Ending → World → Prop) (h : Calls P f vals w post) (hK : ∀ e w', post e w' → ∃ v, e = .returned v ∧ K (a.put o.dst v) w') :
    if Region.wanted o (yielded ops a.tmps) = true then Oper.wp P o a w K Q else E := by
  have hw : Region.wanted o (yielded ops a.tmps) = true := by simp [Region.wanted, hg]
  rw [if_pos hw]
  have hrun := MuLone.run_callFunc_enter (P := P) hf hname hb vals w
  have hex : (execOp a.eval o).run P w = .ok (.enter f vals) w := by
    simp [execOp, hop, resolve, invoke, hvals, Deferred.ofValue, Act.eval]
    simpa using hrun
  unfold Oper.wp
  rw [hex, Oper.upon_enter]
  refine h.mono fun e w' hp => ?_
  obtain ⟨v, rfl, hv⟩ := hK e w' hp
  exact hv

/-! ### rows of nodes as cells -/
def ncells (N : Nat → Int) : List Value := [.int .i32 (N 0), .int .i32 (N 1), .int .i32 (N 2), .int .i32 (N 3), .int .i32 (N 4), .int .i32 (N 5), .int .i32 (N 6), .int .u16 (N 7), .int .u8 (N 8), .int .u8 (N 9)]
theorem ncells_length (N : Nat → Int) : (ncells N).length = 10 := rfl
def rowN (N : Nat → Nat → Int) : Nat → List Value
  | 0 => []
  | n + 1 => rowN N n ++ ncells (N n)
theorem rowN_length (N : Nat → Nat → Int) (n : Nat) : (rowN N n).length = n * 10 := by
  induction n with
  | zero => rfl
  | succ n ih => simp [rowN, ih, ncells_length]; omega
theorem rowN_get (N : Nat → Nat → Int) : ∀ (n i j : Nat), i < n → j < 10 → (rowN N n)[i * 10 + j]? = (ncells (N i))[j]?
  | 0, i, j, h, _ => by omega
  | n + 1, i, j, h, hj => by
    by_cases e : i < n
    · rw [rowN, List.getElem?_append_left (by rw [rowN_length]; omega)]
      exact rowN_get N n i j e hj
    · obtain rfl : i = n := by omega
      rw [rowN, List.getElem?_append_right (by rw [rowN_length]; omega), rowN_length]
      congr 1
      omega
theorem ncells_one (N : Nat → Int) : ∀ u ∈ ncells N, u.oneCell' = true := by
  intro u hu
  simp only [ncells, List.mem_cons, List.not_mem_nil, or_false] at hu
  rcases hu with rfl | rfl | rfl | rfl | rfl | rfl | rfl | rfl | rfl | rfl <;> rfl
theorem rowN_one (N : Nat → Nat → Int) (n : Nat) : ∀ u ∈ rowN N n, u.oneCell' = true := by
  induction n with
  | zero => intro u hu; cases hu
  | succ n ih =>
    intro u hu
    rw [rowN, List.mem_append] at hu
    rcases hu with hu | hu
    · exact ih u hu
    · exact ncells_one _ u hu

/-- n nodes at the head of block g -/
def Nd (w : World) (g n : Nat) (N : Nat → Nat → Int) : Prop := ∀ c, c < n * 10 → w.cell? ⟨g, c, none⟩ = (rowN N n)[c]?

structure Added (w w' : World) (bT nt : Nat) (N : Nat → Nat → Int) (g c : Nat) : Prop where
  os : w'.os = w.os
  tape : w'.tape = w.tape
  output : w'.output = w.output
  size : w.heap.size ≤ w'.heap.size
  cell : w'.cell? ⟨bT, 5, none⟩ = some (.slice (some ⟨g, 0, none⟩) (nt + 1) c)
  table : ∀ o, o ≠ 5 → w'.cell? ⟨bT, o, none⟩ = w.cell? ⟨bT, o, none⟩
  row : Nd w' g (nt + 1) N
  block : ∀ k, k < w.heap.size → k ≠ bT → w'.heap[k]? = w.heap[k]?

def AddPost (w : World) (bT nb nt : Nat) (N : Nat → Nat → Int) (e : Ending) (w' : World) : Prop :=
  ∃ g c, e = .returned (.int .i32 ((nb : Int) + (nt : Int))) ∧ Added w w' bT nt N g c

theorem info35 : (Yba.prog.info? 35).map (fun i => (i.zero, i.size, i.bytes)) = some (some (nv 0 0 0 0 0 0 0 0 0 0), 10, 32) := by kernel_rfl

theorem add_at (b o j : Nat) : (⟨b, o, none⟩ : Addr).add j = ⟨b, o + j, none⟩ := by
  unfold Addr.add
  split <;> simp_all

theorem news_at (w : World) (l : List Value) (t : TypeId) : ∀ j u, l[j]? = some u → (w.alloc (.cells l.toArray t)).cell? ((⟨w.heap.size, 0, none⟩ : Addr).add j) = some u := by
  intro j u hu
  rw [add_at, Nat.zero_add, World.cell?_alloc_at _ _ _ _ rfl]
  simpa using hu

theorem tab_of {w W : World} {bT bM bs m : Nat} {T : Nat → Int} (h : Tab w bT bM bs m T) (hs : w.heap.size ≤ W.heap.size) (hW : ∀ k, k < w.heap.size → W.heap[k]? = w.heap[k]?) : Tab W bT bM bs m T := by
  obtain ⟨l1, l2, l3⟩ := h.lt
  have hc : ∀ b o, b < w.heap.size → W.cell? ⟨b, o, none⟩ = w.cell? ⟨b, o, none⟩ := fun b o hb => World.cell?_of_block (w := w) (a := ⟨b, o, none⟩) (hW b hb)
  exact ⟨(hc _ _ l1).trans h.c0, (hc _ _ l2).trans h.m1, fun r hr => (hc _ _ l3).trans (h.st r hr), h.mono, h.lim, by omega, by omega, by omega⟩

/-- the world behind the first stores of 'add' -/
structure Box (w W : World) (lo x1 x2 x3 x4 x7 x8 : Int) : Prop where
  size : W.heap.size = w.heap.size + 1
  block : ∀ k, k < w.heap.size → W.heap[k]? = w.heap[k]?
  os : W.os = w.os
  tape : W.tape = w.tape
  output : W.output = w.output
  box : W.heap[w.heap.size]? = some (nobj lo x1 x2 x3 x4 (-1) (-1) x7 x8 0)

theorem box_of (w : World) (nq : Nat) (lo x1 x2 x3 x4 x5 x6 x7 x8 x9 : Int) :
    Box w (((((w.alloc (nobj lo x1 x2 x3 x4 x5 x6 x7 x8 x9)).drewN nq).setCell ⟨w.heap.size, 5, none⟩ (.int .i32 (-1))).setCell ⟨w.heap.size, 6, none⟩ (.int .i32 (-1))).setCell ⟨w.heap.size, 9, none⟩ (.int .u8 0)) lo x1 x2 x3 x4 x7 x8 := by
  have h0 : ((w.alloc (nobj lo x1 x2 x3 x4 x5 x6 x7 x8 x9)).drewN nq).heap[w.heap.size]? = some (nobj lo x1 x2 x3 x4 x5 x6 x7 x8 x9) := Deep.blk_alloc_new w _
  refine ⟨by rw [Deep.nblk_setCell, Deep.nblk_setCell, Deep.nblk_setCell]; show (w.alloc _).heap.size = _; simp, fun k hk => ?_, rfl, rfl, rfl, ?_⟩
  · rw [Below.heap_setCell _ _ _ _ (by show k ≠ w.heap.size; omega), Below.heap_setCell _ _ _ _ (by show k ≠ w.heap.size; omega), Below.heap_setCell _ _ _ _ (by show k ≠ w.heap.size; omega)]
    exact Below.heap_alloc _ _ _ hk
  · rw [heap_setCell_same _ _ _ _ _ _ (heap_setCell_same _ _ _ _ _ _ (heap_setCell_same _ _ _ _ _ _ h0))]
    simp

theorem own_form {w4 : World} {B n : Nat} {xs : List Value} {v : Value} (h : w4.ownsRow B 35 10 v n xs) (hpos : 0 < n) :
    ∃ g c, v = .slice (some ⟨g, 0, none⟩) n c ∧ B ≤ g ∧ ∀ j, j < n * 10 → w4.cell? ⟨g, j, none⟩ = xs[j]? := by
  obtain ⟨h1, h2 | ⟨g, cap, cur, hv, hg, hh, hle, hm, hs, ht⟩⟩ := h
  · omega
  · refine ⟨g, cap, hv, hg, fun r hr => ?_⟩
    simp only [World.cell?, hh]
    show cur[r]? = _
    rw [← ht, List.getElem?_take_of_lt (by omega)]
    simp

theorem rowN_congr {N N' : Nat → Nat → Int} : ∀ (n : Nat), (∀ i, i < n → N' i = N i) → rowN N' n = rowN N n
  | 0, _ => rfl
  | n + 1, h => by rw [rowN, rowN, rowN_congr n (fun i hi => h i (by omega)), h n (by omega)]

theorem ones (lo x1 x2 f out : Int) (x7 x8 x9 : Int) : ∀ u ∈ ([.int .i32 lo, .int .i32 x1, .int .i32 x2, .int .i32 f, .int .i32 out, .int .i32 (-1), .int .i32 (-1), .int .u16 x7, .int .u8 x8, .int .u8 x9] : List Value), u.oneCell' = true := by
  intro u hu
  simp only [List.mem_cons, List.not_mem_nil, or_false] at hu
  rcases hu with rfl | rfl | rfl | rfl | rfl | rfl | rfl | rfl | rfl | rfl <;> rfl

theorem old_cells {w W2 w5 : World} {bt nt : Nat} {N : Nat → Nat → Int} {lo x1 x2 x3 x4 x7 x8 : Int} (hr : Nd w bt nt N) (hb : Box w W2 lo x1 x2 x3 x4 x7 x8) (h5 : Below W2.heap.size W2 w5) (hbt : bt < w.heap.size) :
    ∀ o : Obj, ∀ b : Addr, some (⟨bt, 0, none⟩ : Addr) = some b → ∀ j u, (rowN N nt)[j]? = some u → (w5.alloc o).cell? (b.add j) = some u := by
  intro o b e j u hu
  cases e
  have hj : j < nt * 10 := by
    rw [← rowN_length N nt]
    rcases Nat.lt_or_ge j (rowN N nt).length with h' | h'
    · exact h'
    · rw [List.getElem?_eq_none h'] at hu; cases hu
  have s5 := h5.size
  have z := hb.size
  rw [add_at, Nat.zero_add, World.cell?_alloc_past _ _ _ (by omega), World.cell?_of_block (w := W2) (a := ⟨bt, j, none⟩) (h5.block bt (by omega)), World.cell?_of_block (w := w) (a := ⟨bt, j, none⟩) (hb.block bt hbt)]
  exact (hr j hj).trans hu

theorem grow_block {w5 w4 : World} {o : Obj} (h : (w5.alloc o).grownBy w4 none) (k : Nat) (hk : k < w5.heap.size) : w4.heap[k]? = w5.heap[k]? :=
  (h.block k (by simp; omega) (by simp)).trans (Below.heap_alloc _ _ _ hk)

theorem added_of {w W2 w5 w4 : World} {bT nt g4 c4 : Nat} {N N' : Nat → Nat → Int} {lo x1 x2 x3 x4 x7 x8 : Int} {o : Obj} {news : List Value} {x : Value} (hb : Box w W2 lo x1 x2 x3 x4 x7 x8) (h5 : Below W2.heap.size W2 w5) (hg : (w5.alloc o).grownBy w4 none)
    (hg4 : (w5.alloc o).heap.size ≤ g4) (hr : ∀ j, j < (nt + 1) * 10 → w4.cell? ⟨g4, j, none⟩ = (rowN N nt ++ news)[j]?) (hN : ∀ i, i < nt → N' i = N i) (hnews : ncells (N' nt) = news) (hT : bT < w.heap.size) (hc : w4.cell? ⟨bT, 5, none⟩ = some x) :
    Added w (w4.setCell ⟨bT, 5, none⟩ (.slice (some ⟨g4, 0, none⟩) (nt + 1) c4)) bT nt N' g4 c4 := by
  have z2 := hb.size
  have z5 := h5.size
  have z4 := hg.size
  have zg : w5.heap.size + 1 ≤ g4 := by simpa using hg4
  have zs : w5.heap.size + 1 ≤ w4.heap.size := by simpa using z4
  have old : ∀ k, k < w.heap.size → w4.heap[k]? = w.heap[k]? := fun k hk => (grow_block hg k (by omega)).trans ((h5.block k (by omega)).trans (hb.block k hk))
  refine ⟨?_, ?_, ?_, ?_, World.cell?_setCell_same _ _ _ hc, fun o ho => ?_, fun c hcc => ?_, fun k hk hne => ?_⟩
  · exact hg.os.trans (h5.os.trans hb.os)
  · exact hg.tape.trans (h5.tape.trans hb.tape)
  · exact hg.output.trans (h5.output.trans hb.output)
  · rw [Deep.nblk_setCell]; omega
  · rw [World.cell?_setCell_other _ _ _ _ (fun e => ho (congrArg Addr.off e).symm)]
    exact World.cell?_of_block (w := w) (a := ⟨bT, o, none⟩) (old bT hT)
  · rw [World.cell?_setCell_other _ _ _ _ (fun e => by have := congrArg Addr.block e; simp at this; omega), hr c hcc, rowN, rowN_congr nt hN, hnews]
  · rw [Below.heap_setCell _ _ _ _ hne]
    exact old k hk

set_option maxHeartbeats 1600000 in
theorem add_any (bT bM bs m lo : Nat) (T : Nat → Int) (ab : Option Addr) (nb cb bt nt : Nat) (N : Nat → Nat → Int) (x1 x2 x3 x4 x5 x6 x7 x8 x9 f fo out : Int) (pb po : Nat) (w : World) (hT : Tab w bT bM bs m T) (hlo : lo < m)
    (h2 : w.cell? ⟨bT, 2, none⟩ = some (.slice ab nb cb)) (h5 : w.cell? ⟨bT, 5, none⟩ = some (.slice (some ⟨bt, 0, none⟩) nt nt)) (f5 : w.frozen? ⟨bT, 5, none⟩ = false) (hnb : nb ≤ 1048577) (hnt : nt ≤ 1048577) (hrow : Nd w bt nt N) (hbt : bt < w.heap.size)
    (hout : Hid (out = if T (lo + 1) - T lo = x2 then (nb : Int) + (nt : Int) else fo))
    (hptr : ∀ W : World, (∀ k, k < w.heap.size → W.heap[k]? = w.heap[k]?) → Calls Yba.prog 12 #[.pointer (some ⟨bT, 0, none⟩), .int .i32 f] W fun e w' => e = .returned (.pointer (some ⟨pb, po, none⟩)) ∧ W = w')
    (hpo : w.cell? ⟨pb, po + 4, none⟩ = some (.int .i32 fo))
    (N' : Nat → Nat → Int) (hN : ∀ i, i < nt → N' i = N i) (hN2 : ncells (N' nt) = [.int .i32 lo, .int .i32 x1, .int .i32 x2, .int .i32 f, .int .i32 out, .int .i32 (-1), .int .i32 (-1), .int .u16 x7, .int .u8 x8, .int .u8 0]) :
    Calls Yba.prog 9 #[.pointer (some ⟨bT, 0, none⟩), nv lo x1 x2 x3 x4 x5 x6 x7 x8 x9, .int .i32 f] w (AddPost w bT nb nt N') := by
  obtain ⟨l1, l2, l3⟩ := hT.lt
  have HP : Hid (∀ W : World, (∀ k, k < w.heap.size → W.heap[k]? = w.heap[k]?) → Calls Yba.prog 12 #[.pointer (some ⟨bT, 0, none⟩), .int .i32 f] W fun e w' => e = .returned (.pointer (some ⟨pb, po, none⟩)) ∧ W = w') := hptr
  clear hptr
  have HN2 : Hid (ncells (N' nt) = [.int .i32 lo, .int .i32 x1, .int .i32 x2, .int .i32 f, .int .i32 out, .int .i32 (-1), .int .i32 (-1), .int .u16 x7, .int .u8 x8, .int .u8 0]) := hN2
  clear hN2
  have HC : Hid (∀ o : Obj, Calls Yba.prog 10 #[.pointer (some ⟨bT, 0, none⟩)] (w.alloc o) fun e w' => e = .returned (.int .i32 ((nb : Int) + (nt : Int))) ∧ ∃ nq, w' = (w.alloc o).drewN nq) := fun o =>
    count_any bT ab (some ⟨bt, 0, none⟩) nb cb nt nt _ ((World.cell?_alloc_past _ _ _ l1).trans h2) ((World.cell?_alloc_past _ _ _ l1).trans h5) hnb hnt
  go_enter Yba.func9, Yba.ntmps9
  go_wp2_with (go_at_call 10; refine (HC.out _).mono ?_; rintro e w' ⟨rfl, nq, rfl⟩)
  generalize hW : ((((w.alloc (nobj lo x1 x2 x3 x4 x5 x6 x7 x8 x9)).drewN nq).setCell ⟨w.heap.size, 5, none⟩ (.int .i32 (-1))).setCell ⟨w.heap.size, 6, none⟩ (.int .i32 (-1))).setCell ⟨w.heap.size, 9, none⟩ (.int .u8 0) = W2
  have hbox := box_of w nq lo x1 x2 x3 x4 x5 x6 x7 x8 x9
  rw [hW] at hbox
  clear hW
  have z2 := hbox.size
  have hc2 : ∀ b o, b < w.heap.size → W2.cell? ⟨b, o, none⟩ = w.cell? ⟨b, o, none⟩ := fun b o hb => World.cell?_of_block (w := w) (a := ⟨b, o, none⟩) (hbox.block b hb)
  have k5 : W2.cell? ⟨bT, 5, none⟩ = some (.slice (some ⟨bt, 0, none⟩) nt nt) := (hc2 _ _ l1).trans h5
  have HW : Hid (Calls Yba.prog 11 #[.pointer (some ⟨bT, 0, none⟩), nv lo x1 x2 x3 x4 (-1) (-1) x7 x8 0, .int .i32 ((nb : Int) + (nt : Int)), .int .i32 f] W2.drew (WithPost W2.drew lo x1 x2 f out (-1) (-1) x7 x8 0)) :=
    with_any bT bM bs m lo T x1 x2 x3 x4 (-1) (-1) x7 x8 0 _ f fo out pb po W2.drew (tab_of (W := W2.drew) hT (by show _ ≤ W2.heap.size; omega) (fun k hk => hbox.block k hk)) hlo hout
      (fun W hWW => HP.out W (fun k hk => (hWW k (by show k < W2.heap.size; omega)).trans (hbox.block k hk))) ((hc2 _ _ (World.block_lt_of_cell? _ _ hpo)).trans hpo)
  have b0 : W2.cell? ⟨w.heap.size, 0, none⟩ = some (.int .i32 lo) := by simp [World.cell?, hbox.box]
  have b1 : W2.cell? ⟨w.heap.size, 1, none⟩ = some (.int .i32 x1) := by simp [World.cell?, hbox.box]
  have b2 : W2.cell? ⟨w.heap.size, 2, none⟩ = some (.int .i32 x2) := by simp [World.cell?, hbox.box]
  have b3 : W2.cell? ⟨w.heap.size, 3, none⟩ = some (.int .i32 x3) := by simp [World.cell?, hbox.box]
  have b4 : W2.cell? ⟨w.heap.size, 4, none⟩ = some (.int .i32 x4) := by simp [World.cell?, hbox.box]
  have b5 : W2.cell? ⟨w.heap.size, 5, none⟩ = some (.int .i32 (-1)) := by simp [World.cell?, hbox.box]
  have b6 : W2.cell? ⟨w.heap.size, 6, none⟩ = some (.int .i32 (-1)) := by simp [World.cell?, hbox.box]
  have b7 : W2.cell? ⟨w.heap.size, 7, none⟩ = some (.int .u16 x7) := by simp [World.cell?, hbox.box]
  have b8 : W2.cell? ⟨w.heap.size, 8, none⟩ = some (.int .u8 x8) := by simp [World.cell?, hbox.box]
  have b9 : W2.cell? ⟨w.heap.size, 9, none⟩ = some (.int .u8 0) := by simp [World.cell?, hbox.box]
  have HBx : Hid (Box w W2 lo x1 x2 x3 x4 x7 x8) := hbox
  have Hrow : Hid (Nd w bt nt N) := hrow
  have f5' : Hid (w.frozen? ⟨bT, 5, none⟩ = false) := f5
  obtain ⟨i35, hi35, hz1, hz2, hz3⟩ := info_parts info35
  clear hbox hrow hc2 HC h2 h5 hpo hout f5
  go_region_law (first
    | (refine step_call rfl 11 _ _ rfl Yba.f11 _ Yba.func11 (by kernel_rfl) rfl #[.pointer (some ⟨bT, 0, none⟩), nv lo x1 x2 x3 x4 (-1) (-1) x7 x8 0, .int .i32 ((nb : Int) + (nt : Int)), .int .i32 f] (by simp [Act.eval]) _ HW.out ?_; rintro e w5 ⟨he, hb5⟩; refine ⟨_, he, ?_⟩; clear he; have q5 : w5.cell? ⟨bT, 5, none⟩ = some (.slice (some ⟨bt, 0, none⟩) nt nt) := (hb5.cell (p := ⟨bT, 5, none⟩) (by show bT < W2.heap.size; omega)).trans k5; have HB5 : Hid (Below W2.heap.size W2 w5) := ⟨hb5.os, hb5.tape, hb5.output, hb5.size, hb5.block⟩; have z5 : W2.heap.size ≤ w5.heap.size := hb5.size; have q5a : ∀ o : Obj, (w5.alloc o).cell? ⟨bT, 5, none⟩ = some (.slice (some ⟨bt, 0, none⟩) nt nt) := fun o => (World.cell?_alloc_past _ _ _ (by omega)).trans q5; have HO5 : Hid (∀ o : Obj, ∀ b : Addr, some (⟨bt, 0, none⟩ : Addr) = some b → ∀ j u, (rowN N nt)[j]? = some u → (w5.alloc o).cell? (b.add j) = some u) := old_cells Hrow.out HBx.out HB5.out hbt; clear hb5)
    | (refine step_append_grows rfl (.tmp 17) (.tmp 23) 33 rfl 35 i35 (nv 0 0 0 0 0 0 0 0 0 0) 10 32 Yba.underlying33 hi35 hz1 hz2 hz3 rfl (by decide) (some ⟨bt, 0, none⟩) nt nt (rowN N nt) (by simp [Act.eval]) (fun e => by cases e) (rowN_length N nt) (HO5.out _) ⟨w5.heap.size, 0, none⟩ 1 1 [.int .i32 lo, .int .i32 x1, .int .i32 x2, .int .i32 f, .int .i32 out, .int .i32 (-1), .int .i32 (-1), .int .u16 x7, .int .u8 x8, .int .u8 0] (by simp [Act.eval]) rfl (news_at _ _ _) (ones _ _ _ _ _ _ _ _) (by omega) (by unfold maxLen; omega) (by omega) ?_; intro v4 w4 hown hgrow; obtain ⟨g4, c4, hv4, hg4, hr4⟩ := own_form hown (by omega); subst hv4; have HR4 : Hid _ := hr4; clear hr4 hown; have q4 : w4.cell? ⟨bT, 5, none⟩ = some (.slice (some ⟨bt, 0, none⟩) nt nt) := (World.cell?_of_block (w := w5) (a := ⟨bT, 5, none⟩) (grow_block hgrow bT (by omega))).trans q5; have r4 : w4.frozen? ⟨bT, 5, none⟩ = false := (World.frozen?_of_block (w := w) (a := ⟨bT, 5, none⟩) ((grow_block hgrow bT (by omega)).trans ((HB5.out.block bT (by omega)).trans (HBx.out.block bT l1)))).trans f5'.out))
  all_goals
    have HA : Hid (Added w (w4.setCell ⟨bT, 5, none⟩ (.slice (some ⟨g4, 0, none⟩) (nt + 1) c4)) bT nt N' g4 c4) := added_of HBx.out HB5.out hgrow hg4 HR4.out hN HN2.out l1 q4
    clear hgrow hg4 HR4 HO5 HB5 q5a q5 HW HP b0 b1 b2 b3 b4 b5 b6 b7 b8 b9 k5
    go_wp2
    go_ret
    exact ⟨g4, c4, rfl, HA.out⟩
end Go.Proofs.Ybulkdqzc.PartsC
