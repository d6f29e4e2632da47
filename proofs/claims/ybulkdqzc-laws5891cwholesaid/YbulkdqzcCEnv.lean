/-
  What the walk of 'LawS5891CWhole' carries from phase to phase.
-/
import Derived.Test.YbulkdqzcCAdd
import Derived.Deep.DeepCutAuto
namespace Go.Proofs.Ybulkdqzc.PartsC
open Go.ChangeShapes Go.WideShapes Go.ChangeAt Go.RowKit
set_option linter.unusedVariables false

theorem info5 : (Yba.prog.info? 5).map (fun i => (i.zero, i.size, i.bytes)) = some (some (.int .u8 0), 1, 1) := by kernel_rfl
theorem info21 : (Yba.prog.info? 21).map (fun i => (i.zero, i.size, i.bytes)) = some (some (.int .i32 0), 1, 4) := by kernel_rfl

/-- ten cells of an incoming node -/
def Z10 (w : World) (b o : Nat) (Z : Nat → Int) : Prop :=
  w.cell? ⟨b, o, none⟩ = some (.int .u32 (Z 0)) ∧ w.cell? ⟨b, o + 1, none⟩ = some (.int .i32 (Z 1)) ∧ w.cell? ⟨b, o + 2, none⟩ = some (.int .i32 (Z 2)) ∧ w.cell? ⟨b, o + 3, none⟩ = some (.int .i32 (Z 3)) ∧
  w.cell? ⟨b, o + 4, none⟩ = some (.int .i32 (Z 4)) ∧ w.cell? ⟨b, o + 5, none⟩ = some (.int .i32 (Z 5)) ∧ w.cell? ⟨b, o + 6, none⟩ = some (.int .i32 (Z 6)) ∧ w.cell? ⟨b, o + 7, none⟩ = some (.int .u16 (Z 7)) ∧
  w.cell? ⟨b, o + 8, none⟩ = some (.int .u8 (Z 8)) ∧ w.cell? ⟨b, o + 9, none⟩ = some (.int .u8 (Z 9))

/-- a slice of incoming nodes -/
def Zs (w : World) (ao : Option Addr) (n : Nat) (Z : Nat → Nat → Int) : Prop := ∀ i, i < n → ∃ b o, ao = some ⟨b, o, none⟩ ∧ b < w.heap.size ∧ Z10 w b (o + i * 10) (Z i)

/-- a slice of bytes -/
def Bs (w : World) (ao : Option Addr) (n : Nat) (S : Nat → Int) : Prop := ∀ i, i < n → ∃ b o, ao = some ⟨b, o, none⟩ ∧ b < w.heap.size ∧ w.cell? ⟨b, o + i, none⟩ = some (.int .u8 (S i)) ∧ 0 ≤ S i ∧ S i ≤ 255

def u8s (S : Nat → Int) (n : Nat) : List Value := (List.range n).map fun i => .int .u8 (S i)
theorem u8s_length (S : Nat → Int) (n : Nat) : (u8s S n).length = n := by simp [u8s]
theorem u8s_one (S : Nat → Int) (n : Nat) : ∀ u ∈ u8s S n, u.oneCell' = true := by
  intro u hu
  simp only [u8s, List.mem_map] at hu
  obtain ⟨i, _, rfl⟩ := hu
  rfl
theorem u8s_at {S : Nat → Int} {n j : Nat} {v : Value} (h : (u8s S n)[j]? = some v) : j < n ∧ v = .int .u8 (S j) := by
  have hj : j < (u8s S n).length := by
    rcases Nat.lt_or_ge j (u8s S n).length with h' | h'
    · exact h'
    · rw [List.getElem?_eq_none h'] at h; cases h
  rw [u8s_length] at hj
  refine ⟨hj, ?_⟩
  simp [u8s, hj] at h
  exact h.symm

def LawPost (w : World) (e : Ending) (w' : World) : Prop := e = .returned (.bool true) ∧ Below w.heap.size w w'

set_option maxRecDepth 100000 in
theorem law_big (a1 a2 a3 : Option Addr) (n1 k1 n2 k2 n3 k3 : Nat) (c0 c1 c2 c3 c4 c5 c6 c7 c8 c9 f : Int) (w : World) (h1 : n1 ≤ 140737488355328) (h2 : n2 ≤ 140737488355328) (h3 : n3 ≤ 140737488355328) (hbig : 1048576 < n1 + n2 + n3) :
    Calls Yba.prog 5 #[.slice a1 n1 k1, .slice a2 n2 k2, .slice a3 n3 k3, zv c0 c1 c2 c3 c4 c5 c6 c7 c8 c9, .int .u32 f] w (LawPost w) := by
  have hb : (1048576 : Int) < (n1 : Int) + (n2 : Int) + (n3 : Int) := by omega
  go_enter Yba.func5, Yba.ntmps5
  go_wp2
  go_ret
  exact ⟨rfl, (Below.refl _ _).alloc (Nat.le_refl _) _⟩

/-- behind the first statements: the lengths -/
structure P1 (w0 wc : World) (bl m : Nat) (S : Nat → Int) : Prop where
  below : Below w0.heap.size w0 wc
  cells : ∀ i, i < m → wc.cell? ⟨bl, i, none⟩ = some (.int .u8 (S i))
  u8 : ∀ i, i < m → 0 ≤ S i ∧ S i ≤ 255
  lt : bl < wc.heap.size
  pos : 1 ≤ m ∧ m ≤ 1048577

theorem p1_src {w w0 w1 : World} {a3 : Option Addr} {n3 : Nat} {S0 : Nat → Int} (hs : Bs w a3 n3 S0) (hb : Below w.heap.size w w0) (hg : w0.grownBy w1 none) (hz : w.heap.size ≤ w0.heap.size) :
    ∀ ad, a3 = some ad → ∀ j u, (u8s S0 n3)[j]? = some u → w1.cell? (ad.add j) = some u := by
  intro ad e j u hu
  obtain ⟨hj, rfl⟩ := u8s_at hu
  obtain ⟨b, o, e2, hbb, hc, _⟩ := hs j hj
  rw [e] at e2
  cases e2
  rw [add_at, (hb.grown hg hz (fun k h => by cases h)).cell (p := ⟨b, o + j, none⟩) hbb]
  exact hc

theorem own_lt {w2 : World} {B e size g m cap : Nat} {xs : List Value} (hown : w2.ownsRow B e size (.slice (some ⟨g, 0, none⟩) m cap) m xs) : g < w2.heap.size := by
  obtain ⟨_, ⟨h2, _⟩ | ⟨g', c', cur, hv, _, hh, _⟩⟩ := hown
  · cases h2
  · cases hv
    obtain ⟨h1, _⟩ := Array.getElem?_eq_some_iff.1 hh
    exact h1

theorem one8 : ∀ u ∈ ([.int .u8 1] : List Value), u.oneCell' = true := by
  intro u hu
  simp at hu
  subst hu
  rfl

theorem p1_full {w0 w2 : World} {g m cap : Nat} {S : Nat → Int} (hb : Below w0.heap.size w0 w2)
    (hown : w2.ownsRow w0.heap.size 5 1 (.slice (some ⟨g, 0, none⟩) m cap) m (u8s S m)) (hu : ∀ i, i < m → 0 ≤ S i ∧ S i ≤ 255) (hm : 1 ≤ m ∧ m ≤ 1048577) : P1 w0 w2 g m S := by
  refine ⟨hb, fun i hi => ?_, hu, own_lt hown, hm⟩
  rw [hown.cellAt i (by omega)]
  simp [u8s, hi]

/-- the sums of the first lengths -/
def pre (S : Nat → Int) : Nat → Int
  | 0 => 0
  | k + 1 => pre S k + S k
theorem pre_bd (S : Nat → Int) : ∀ (m : Nat), (∀ i, i < m → 0 ≤ S i ∧ S i ≤ 255) → 0 ≤ pre S m ∧ pre S m ≤ 255 * (m : Int)
  | 0, _ => by simp [pre]
  | m + 1, h => by
    have h1 := pre_bd S m (fun i hi => h i (by omega))
    have h2 := h m (by omega)
    simp only [pre]
    omega

structure P2 (wc wr : World) (m k : Nat) (S : Nat → Int) : Prop where
  below : Below wc.heap.size wc wr
  row : wr.rowIs wc.heap.size 21 (m + 1) (fun j => if j ≤ k then .int .i32 (pre S j) else .int .i32 0)

theorem p2_start (wc : World) (m : Nat) (S : Nat → Int) : P2 wc (wc.alloc (.cells (madeCells #[.int .i32 0] (m + 1)) 21)) m 0 S :=
  ⟨(Below.refl _ _).alloc (Nat.le_refl _) _, (World.rowIs_made wc _ (m + 1) 21).congr (fun j _ => by
    by_cases h : j ≤ 0
    · obtain rfl : j = 0 := by omega
      simp [pre]
    · rw [if_neg h])⟩

theorem p2_step {wc wr : World} {m k : Nat} {S : Nat → Int} (h : P2 wc wr m k S) : P2 wc (wr.setCell ⟨wc.heap.size, k + 1, none⟩ (.int .i32 (pre S k + S k))).drew m (k + 1) S :=
  ⟨(h.below.setCell (p := ⟨wc.heap.size, k + 1, none⟩) (Nat.le_refl _) _).drew, ((h.row.set (k + 1) _).congr (fun j _ => by
    by_cases e : j = k + 1
    · subst e
      rw [if_pos rfl, if_pos (Nat.le_refl _)]
      rfl
    · rw [if_neg e]
      by_cases e2 : j ≤ k
      · rw [if_pos e2, if_pos (by omega)]
      · rw [if_neg e2, if_neg (by omega)])).drew⟩


/-! ### what is carried -/
/-- the code behind the first n statements -/
def tl : Nat → Code → Code
  | 0, c => c
  | n + 1, .seq _ b => tl n b
  | _ + 1, c => c

theorem Z10.mono {W W' : World} {b o : Nat} {Z : Nat → Int} (h : Z10 W b o Z) (hb : W'.heap[b]? = W.heap[b]?) : Z10 W' b o Z := by
  have hc : ∀ x, W'.cell? ⟨b, x, none⟩ = W.cell? ⟨b, x, none⟩ := fun x => World.cell?_of_block (w := W) (a := ⟨b, x, none⟩) hb
  obtain ⟨h0, h1, h2, h3, h4, h5, h6, h7, h8, h9⟩ := h
  exact ⟨(hc _).trans h0, (hc _).trans h1, (hc _).trans h2, (hc _).trans h3, (hc _).trans h4, (hc _).trans h5, (hc _).trans h6, (hc _).trans h7, (hc _).trans h8, (hc _).trans h9⟩

def cf (c0 c1 c2 c3 c4 c5 c6 c7 c8 c9 : Int) : Nat → Int
  | 0 => c0 | 1 => c1 | 2 => c2 | 3 => c3 | 4 => c4 | 5 => c5 | 6 => c6 | 7 => c7 | 8 => c8 | _ => c9

/-- the lengths, the box of c -/
structure EA (w W : World) (bl m : Nat) (S C : Nat → Int) : Prop where
  below : Below w.heap.size w W
  box : Z10 W w.heap.size 0 C
  boxlt : w.heap.size < W.heap.size
  ls : ∀ i, i < m → W.cell? ⟨bl, i, none⟩ = some (.int .u8 (S i))
  u8 : ∀ i, i < m → 0 ≤ S i ∧ S i ≤ 255
  lt : bl < W.heap.size
  pos : 1 ≤ m ∧ m ≤ 1048577

theorem EA.mono {w W W' : World} {bl m : Nat} {S C : Nat → Int} (h : EA w W bl m S C) (hb : Below W.heap.size W W') : EA w W' bl m S C := by
  have z := hb.size
  have z2 := h.boxlt
  have z3 := h.lt
  exact ⟨h.below.trans (hb.mono (by omega)), h.box.mono (hb.block _ z2), by omega, fun i hi => (hb.cell (p := ⟨bl, i, none⟩) z3).trans (h.ls i hi), h.u8, by omega, h.pos⟩

/-- the sums -/
structure EB (W : World) (bs m : Nat) (S : Nat → Int) : Prop where
  st : ∀ r, r ≤ m → W.cell? ⟨bs, r, none⟩ = some (.int .i32 (pre S r))
  lt : bs < W.heap.size

theorem EB.mono {W W' : World} {bs m : Nat} {S : Nat → Int} (h : EB W bs m S) (hb : Below W.heap.size W W') : EB W' bs m S := by
  have z := hb.size
  have z3 := h.lt
  exact ⟨fun i hi => (hb.cell (p := ⟨bs, i, none⟩) z3).trans (h.st i hi), by omega⟩

/-- a row of nodes -/
structure EN (W : World) (g n : Nat) (N : Nat → Nat → Int) : Prop where
  row : Nd W g n N
  lt : g < W.heap.size

theorem EN.mono {W W' : World} {g n : Nat} {N : Nat → Nat → Int} (h : EN W g n N) (hb : Below W.heap.size W W') : EN W' g n N := by
  have z := hb.size
  have z3 := h.lt
  exact ⟨fun c hc => (hb.cell (p := ⟨g, c, none⟩) z3).trans (h.row c hc), by omega⟩

theorem Zs.mono {w W : World} {a : Option Addr} {n : Nat} {Z : Nat → Nat → Int} (h : Zs w a n Z) (hb : Below w.heap.size w W) : Zs W a n Z := by
  intro i hi
  obtain ⟨b, o, e, hbb, hz⟩ := h i hi
  have z := hb.size
  exact ⟨b, o, e, by omega, hz.mono (hb.block _ hbb)⟩

/-- a node as it comes in, turned -/
def zn (Z : Nat → Nat → Int) (i j : Nat) : Int := if j = 0 then wrap32 (Z i 0) else Z i j
theorem news_at2 (w : World) (l : List Value) (t : TypeId) (h : Nat) (e : h = w.heap.size) : ∀ j u, l[j]? = some u → (w.alloc (.cells l.toArray t)).cell? ((⟨h, 0, none⟩ : Addr).add j) = some u := by
  subst e
  exact news_at w l t

theorem ones2 (x0 x1 x2 x3 x4 x5 x6 x7 x8 x9 : Int) : ∀ u ∈ ([.int .i32 x0, .int .i32 x1, .int .i32 x2, .int .i32 x3, .int .i32 x4, .int .i32 x5, .int .i32 x6, .int .u16 x7, .int .u8 x8, .int .u8 x9] : List Value), u.oneCell' = true := by
  intro u hu
  simp only [List.mem_cons, List.not_mem_nil, or_false] at hu
  rcases hu with rfl | rfl | rfl | rfl | rfl | rfl | rfl | rfl | rfl | rfl <;> rfl

theorem ncells_zn (Z : Nat → Nat → Int) (i : Nat) : ncells (zn Z i) = [.int .i32 (wrap32 (Z i 0)), .int .i32 (Z i 1), .int .i32 (Z i 2), .int .i32 (Z i 3), .int .i32 (Z i 4), .int .i32 (Z i 5), .int .i32 (Z i 6), .int .u16 (Z i 7), .int .u8 (Z i 8), .int .u8 (Z i 9)] := by
  simp [ncells, zn]

/-- the base's nodes, k of them laid -/
structure P8 (W wr : World) (n1 k : Nat) (Z : Nat → Nat → Int) : Prop where
  below : Below W.heap.size W wr
  own : wr.ownsRow W.heap.size 35 10 (.slice (some ⟨W.heap.size, 0, none⟩) k (n1 + 1)) k (rowN (zn Z) k)
end Go.Proofs.Ybulkdqzc.PartsC
