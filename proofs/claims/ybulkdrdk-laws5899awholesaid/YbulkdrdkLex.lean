/-
  The order of digit strings of one length is the order of their numbers.
-/
import Derived.Test.YbulkdrdkRead
namespace Go.Proofs.Ybulkdrdk.Parts

def nvl : List UInt8 → Nat
  | [] => 0
  | b :: l => (b.toNat - 48) * 10 ^ l.length + nvl l
def DigL (l : List UInt8) : Prop := ∀ b ∈ l, 48 ≤ b.toNat ∧ b.toNat ≤ 57

theorem nvl_lt : ∀ (l : List UInt8), DigL l → nvl l < 10 ^ l.length
  | [], _ => by simp [nvl]
  | b :: l, h => by
    have h1 := nvl_lt l (fun c hc => h c (by simp [hc]))
    have h2 := h b (by simp)
    rw [nvl, List.length_cons, Nat.pow_succ]
    have h3 : (b.toNat - 48) * 10 ^ l.length ≤ 9 * 10 ^ l.length := Nat.mul_le_mul_right _ (by omega)
    omega

theorem nvl_app (l : List UInt8) (b : UInt8) : nvl (l ++ [b]) = nvl l * 10 + (b.toNat - 48) := by
  induction l with
  | nil => simp [nvl]
  | cons a l ih =>
    rw [List.cons_append, nvl, ih, nvl, List.length_append, List.length_singleton, Nat.pow_succ, Nat.add_mul, Nat.mul_assoc]
    omega

theorem lex_le : ∀ (x y : List UInt8), x.length = y.length → DigL x → DigL y → (Op.bytesLess x y || x == y) = decide (nvl x ≤ nvl y)
  | [], [], _, _, _ => by simp [Op.bytesLess, nvl]
  | a :: x, b :: y, hl, hx, hy => by
    have hl' : x.length = y.length := by simpa using hl
    have hx' : DigL x := fun c hc => hx c (by simp [hc])
    have hy' : DigL y := fun c hc => hy c (by simp [hc])
    have ih := lex_le x y hl' hx' hy'
    have h1 := nvl_lt x hx'
    have h2 := nvl_lt y hy'
    have ha := hx a (by simp)
    have hb := hy b (by simp)
    rw [Op.bytesLess, nvl, nvl, hl']
    rw [hl'] at h1
    rcases Nat.lt_trichotomy a.toNat b.toNat with h | h | h
    · have e1 : a < b := h
      have h3 : (a.toNat - 48 + 1) * 10 ^ y.length ≤ (b.toNat - 48) * 10 ^ y.length := Nat.mul_le_mul_right _ (by omega)
      rw [Nat.add_mul, Nat.one_mul] at h3
      simp only [e1, decide_true, Bool.true_or]
      exact (decide_eq_true (by omega)).symm
    · have e1 : a = b := UInt8.toNat_inj.1 h
      subst e1
      have e2 : decide (a < a) = false := decide_eq_false (by simp)
      rw [e2]
      simp only [BEq.rfl, Bool.true_and, Bool.false_or, List.cons_beq_cons]
      rw [ih]
      congr 1
      apply propext
      omega
    · have e1 : decide (a < b) = false := decide_eq_false (by show ¬ a.toNat < b.toNat; omega)
      have e2 : (a == b) = false := by rw [beq_eq_false_iff_ne]; rintro rfl; omega
      have h3 : (b.toNat - 48 + 1) * 10 ^ y.length ≤ (a.toNat - 48) * 10 ^ y.length := Nat.mul_le_mul_right _ (by omega)
      rw [Nat.add_mul, Nat.one_mul] at h3
      simp only [e1, e2, Bool.false_and, Bool.or_false, List.cons_beq_cons]
      exact (decide_eq_false (by omega)).symm

theorem cc_list (d : ByteArray) (k : Nat) (h : k < d.size) : ∃ b, d.data.toList[k]? = some b ∧ b.toNat = cc d k := by
  refine ⟨d[k]'h, ?_, cc_lt h⟩
  have h' : k < d.data.toList.length := by simpa using h
  rw [List.getElem?_eq_getElem h']
  rfl

theorem val_list (d : ByteArray) : ∀ k, k ≤ d.size → val d k = nvl (d.data.toList.take k)
  | 0, _ => by simp [val, nvl]
  | k + 1, h => by
    obtain ⟨b, hb, hc⟩ := cc_list d k (by omega)
    rw [val, val_list d k (by omega), List.take_add_one, hb, Option.toList_some, nvl_app, hc]

theorem digL_of {d : ByteArray} (h : Dig d d.size) : DigL d.data.toList := by
  intro b hb
  obtain ⟨k, hk, rfl⟩ := List.getElem_of_mem hb
  have hk' : k < d.size := by simpa using hk
  obtain ⟨c, hc, hcc⟩ := cc_list d k hk'
  rw [List.getElem?_eq_getElem hk] at hc
  cases hc
  rw [hcc]
  exact h k hk'

theorem val_whole (d : ByteArray) : val d d.size = nvl d.data.toList := by
  rw [val_list d d.size (Nat.le_refl _), List.take_of_length_le (by simp)]

theorem val_mono (d : ByteArray) {k n : Nat} (h : k ≤ n) : val d k ≤ val d n := by
  induction n with
  | zero => obtain rfl : k = 0 := by omega
            exact Nat.le_refl _
  | succ n ih =>
    by_cases e : k = n + 1
    · rw [e]; exact Nat.le_refl _
    · have := ih (by omega)
      rw [val]
      omega

/-- the greatest number's text -/
def limS (neg : Bool) : ByteArray := ⟨if neg then #[57, 50, 50, 51, 51, 55, 50, 48, 51, 54, 56, 53, 52, 55, 55, 53, 56, 48, 56] else #[57, 50, 50, 51, 51, 55, 50, 48, 51, 54, 56, 53, 52, 55, 55, 53, 56, 48, 55]⟩

theorem lim_le {neg : Bool} {d : ByteArray} (h : Dig d d.size) (hs : d.size = 19) : (Op.bytesLess d.toList (limS neg).toList || d.toList == (limS neg).toList) = decide (val d d.size ≤ lim neg) := by
  rw [ByteArray.toList_eq, ByteArray.toList_eq, val_whole]
  have hl : d.data.toList.length = 19 := by simpa using hs
  have hd : DigL (limS neg).data.toList := by cases neg <;> (simp only [limS, DigL]; decide)
  have hn : nvl (limS neg).data.toList = lim neg := by cases neg <;> rfl
  rw [lex_le _ _ (by rw [hl]; cases neg <;> rfl) (digL_of h) hd, hn]
end Go.Proofs.Ybulkdrdk.Parts
