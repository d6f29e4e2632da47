/-
  THE WALKS of 'LawS5895CWhole' and of what it calls. 'isB': is the byte a blank; 'cnt': how many blanks a text begins with.
-/
import Derived.Test.YbulkdrbgDoorRows
import Derived.WalkKit
import Derived.ProofKit
import Derived.OpenShut
import Derived.Outline
namespace Go.Proofs.YbulkdrbgDoor.Steps
open Go.ChangeShapes Go.WideShapes Go.ChangeAt Go.RowKit
set_option linter.unusedVariables false

/-! ### The plain functions -/
def isB (c : Int) : Bool := c == 32 || (c == 9 || (c == 13 || (c == 11 || c == 12)))
def cnt : List UInt8 → Nat
  | [] => 0
  | c :: r => if isB (c.toNat : Int) then cnt r + 1 else 0

theorem isB_true {c : Int} (h : c = 32 ∨ c = 9 ∨ c = 13 ∨ c = 11 ∨ c = 12) : isB c = true := by
  rcases h with h | h | h | h | h <;> subst h <;> decide
theorem isB_false {c : Int} (h0 : ¬ c = 32) (h1 : ¬ c = 9) (h2 : ¬ c = 13) (h3 : ¬ c = 11) (h4 : ¬ c = 12) : isB c = false := by
  simp [isB, h0, h1, h2, h3, h4]
theorem cnt_le (l : List UInt8) : cnt l ≤ l.length := by
  induction l with
  | nil => simp [cnt]
  | cons c r ih => simp only [cnt, List.length_cons]; split <;> omega

theorem drop_cons (s : ByteArray) (k : Nat) (h : k < s.size) : s.data.toList.drop k = s[k] :: s.data.toList.drop (k + 1) := by
  rw [List.drop_eq_getElem_cons (by simpa using h)]; rfl
theorem cnt_hit (s : ByteArray) (k : Nat) (h : k < s.size) (hb : isB ((s[k].toNat : Nat) : Int) = true) : cnt (s.data.toList.drop k) = cnt (s.data.toList.drop (k + 1)) + 1 := by
  rw [drop_cons s k h]; simp [cnt, hb]
theorem cnt_miss (s : ByteArray) (k : Nat) (h : k < s.size) (hb : isB ((s[k].toNat : Nat) : Int) = false) : cnt (s.data.toList.drop k) = 0 := by
  rw [drop_cons s k h]; simp [cnt, hb]
theorem cnt_end (s : ByteArray) (k : Nat) (h : s.size ≤ k) : cnt (s.data.toList.drop k) = 0 := by
  rw [List.drop_eq_nil_of_le (by simpa using h)]; rfl

/-! ### isblank -/
abbrev Rel (c : Int) (k : Nat) : Prop := (0 < k → ¬ c = 32) ∧ (1 < k → ¬ c = 9) ∧ (2 < k → ¬ c = 13) ∧ (3 < k → ¬ c = 11) ∧ (4 < k → ¬ c = 12)

theorem hit_step {c : Int} {k : Nat} (hk : k < 5) (h : ((({ data := #[32, 9, 13, 11, 12] } : ByteArray)[k]'hk).toNat : Int) = c) : isB c = true := by
  match k, hk, h with
  | 0, _, h => exact isB_true (Or.inl h.symm)
  | 1, _, h => exact isB_true (Or.inr (Or.inl h.symm))
  | 2, _, h => exact isB_true (Or.inr (Or.inr (Or.inl h.symm)))
  | 3, _, h => exact isB_true (Or.inr (Or.inr (Or.inr (Or.inl h.symm))))
  | 4, _, h => exact isB_true (Or.inr (Or.inr (Or.inr (Or.inr h.symm))))
  | n + 5, hk, _ => omega

theorem miss_step {c : Int} {k : Nat} (hk : k < 5) (h : ¬ ((({ data := #[32, 9, 13, 11, 12] } : ByteArray)[k]'hk).toNat : Int) = c) (r : Rel c k) : Rel c (k + 1) := by
  obtain ⟨h0, h1, h2, h3, h4⟩ := r
  match k, hk, h with
  | 0, _, h => exact ⟨fun _ e => h e.symm, by omega, by omega, by omega, by omega⟩
  | 1, _, h => exact ⟨fun _ => h0 (by omega), fun _ e => h e.symm, by omega, by omega, by omega⟩
  | 2, _, h => exact ⟨fun _ => h0 (by omega), fun _ => h1 (by omega), fun _ e => h e.symm, by omega, by omega⟩
  | 3, _, h => exact ⟨fun _ => h0 (by omega), fun _ => h1 (by omega), fun _ => h2 (by omega), fun _ e => h e.symm, by omega⟩
  | 4, _, h => exact ⟨fun _ => h0 (by omega), fun _ => h1 (by omega), fun _ => h2 (by omega), fun _ => h3 (by omega), fun _ e => h e.symm⟩
  | n + 5, hk, _ => omega

theorem ret_bool {a b : Bool} (h : a = b) : Ending.returned (.bool a) = .returned (.bool b) := by rw [h]

theorem isblank_any (c : Int) (w : World) :
    Calls Ybad.prog 5 #[.int .u8 c] w fun e w' => e = .returned (.bool (isB c)) ∧ w' = w := by
  go_enter Ybad.func5, Ybad.ntmps5
  go_wp2
  go_loop [3] (fun i => ∃ k : Nat, k ≤ 5 ∧ i = .int .i64 k ∧ Rel c k) (fun i => 5 - (intOf i).toNat)
  case atStart => exact ⟨0, by omega, rfl, by omega, by omega, by omega, by omega, by omega⟩
  case round =>
    obtain ⟨k, hk, rfl, hr⟩ := hrel
    have HR : Hid (Rel c k) := hr
    clear hr
    by_cases hlt : k < 5
    · by_cases hc : ((({ data := #[32, 9, 13, 11, 12] } : ByteArray)[k]'hlt).toNat : Int) = c
      · have ht := hit_step hlt hc
        have hc' : (((({ data := #[32, 9, 13, 11, 12] } : ByteArray)[k]'hlt).toNat : Int) == c) = true := by simpa using hc
        clear hc
        have HT : Hid (isB c = true) := ht
        clear ht
        go_wp2
        go_ret
        exact ⟨ret_bool HT.out.symm, rfl⟩
      · have ht := miss_step hlt hc HR.out
        have hc' : (((({ data := #[32, 9, 13, 11, 12] } : ByteArray)[k]'hlt).toNat : Int) == c) = false := by simpa using hc
        clear hc
        have HT : Hid (Rel c (k + 1)) := ht
        clear ht
        go_wp2
        go_round
        case rel => exact ⟨k + 1, by omega, by go_num, HT.out⟩
        case measure => simp [intOf]; omega
    · obtain rfl : k = 5 := by omega
      have hf : isB c = false := by
        obtain ⟨h0, h1, h2, h3, h4⟩ := HR.out
        exact isB_false (h0 (by omega)) (h1 (by omega)) (h2 (by omega)) (h3 (by omega)) (h4 (by omega))
      have HT : Hid (isB c = false) := hf
      clear hf
      go_wp2
      go_ret
      exact ⟨ret_bool HT.out.symm, rfl⟩

/-! ### trimLeft -/
theorem ret_str {a b : ByteArray} (h : a = b) : Ending.returned (.string a) = .returned (.string b) := by rw [h]

theorem trim_any (s : ByteArray) (w : World) (hs : s.size ≤ 1048577) (htab : ∀ c : Nat, c < 256 → w.cell? ⟨0, c, none⟩ = some (.bool (isB (c : Int)))) :
    Calls Ybad.prog 6 #[.string s] w fun e w' => e = .returned (.string (s.extract (cnt s.data.toList) s.size)) ∧ w' = w := by
  have hle := cnt_le s.data.toList
  go_enter Ybad.func6, Ybad.ntmps6
  go_wp2
  go_loop [3] (fun i => ∃ k : Nat, k ≤ s.size ∧ i = .int .i64 k ∧ k + cnt (s.data.toList.drop k) = cnt s.data.toList) (fun i => s.size - (intOf i).toNat)
  case atStart => exact ⟨0, by omega, rfl, by simp⟩
  case round =>
    obtain ⟨k, hk, rfl, hr⟩ := hrel
    have HR : Hid (k + cnt (s.data.toList.drop k) = cnt s.data.toList) := hr
    clear hr
    by_cases hlt : k < s.size
    · have hcell : w.cell? ⟨0, s[k].toNat, none⟩ = some (.bool (isB ((s[k].toNat : Nat) : Int))) := htab _ (UInt8.toNat_lt _)
      have hb256 : s[k].toNat < 256 := UInt8.toNat_lt _
      by_cases hc : isB ((s[k].toNat : Nat) : Int) = true
      · have HC : Hid (cnt (s.data.toList.drop k) = cnt (s.data.toList.drop (k + 1)) + 1) := cnt_hit s k hlt hc
        go_wp2
        go_round
        case rel => exact ⟨k + 1, by omega, by go_num, by have := HR.out; have := HC.out; omega⟩
        case measure => simp [intOf]; omega
      · have hc' : isB ((s[k].toNat : Nat) : Int) = false := by simpa using hc
        have HC : Hid (cnt (s.data.toList.drop k) = 0) := cnt_miss s k hlt hc'
        clear hc
        go_wp2
        go_ret
        exact ⟨ret_str (by have := HR.out; have := HC.out; congr 1; omega), rfl⟩
    · have HC : Hid (cnt (s.data.toList.drop k) = 0) := cnt_end s k (by omega)
      go_wp2
      go_ret
      exact ⟨ret_str (by have := HR.out; have := HC.out; congr 1; omega), rfl⟩

/-! ### nameAt -/
theorem tail_list (t : ByteArray) : (t.extract 1 t.size).data.toList = t.data.toList.drop 1 := by
  rw [ByteArray.data_extract]
  have h : t.data.toList.tail.length ≤ t.size - 1 := by simp
  simp [List.take_of_length_le h]

theorem trim_tail (t : ByteArray) (w : World) (hs : t.size ≤ 1048577) (htab : ∀ c : Nat, c < 256 → w.cell? ⟨0, c, none⟩ = some (.bool (isB (c : Int)))) :
    Calls Ybad.prog 6 #[.string (t.extract 1 t.size)] w fun e w' => ∃ r : ByteArray, e = .returned (.string r) ∧ (r.size ≤ 1048577 ∧ Hid (r.size = t.size - 1 - cnt (t.data.toList.drop 1))) ∧ w' = w := by
  refine (trim_any _ w (by simp; omega) htab).mono ?_
  rintro e w' ⟨rfl, rfl⟩
  refine ⟨_, rfl, ⟨by simp; omega, ?_⟩, rfl⟩
  show _ = _
  rw [tail_list]
  simp

theorem ret_int {k : IntKind} {a b : Int} (h : a = b) : Ending.returned (.int k a) = .returned (.int k b) := by rw [h]

theorem name_hdr (t : ByteArray) (w : World) (h1 : 1 ≤ t.size) (hs : t.size ≤ 1048577) (htab : ∀ c : Nat, c < 256 → w.cell? ⟨0, c, none⟩ = some (.bool (isB (c : Int)))) :
    Calls Ybad.prog 4 #[.int .i64 3, .string t] w fun e w' => e = .returned (.int .i64 ((1 + cnt (t.data.toList.drop 1) : Nat) : Int)) ∧ w' = w := by
  have hle := cnt_le (t.data.toList.drop 1)
  have hlen : (t.data.toList.drop 1).length = t.size - 1 := by simp
  rw [hlen] at hle
  clear hlen
  have htrim := trim_tail t w hs htab
  clear htab
  go_enter Ybad.func4, Ybad.ntmps4
  go_wp2_with (go_at_call 6; refine htrim.mono ?_; rintro e w' ⟨r, rfl, ⟨hr, hr2⟩, rfl⟩)
  go_ret
  exact ⟨ret_int (by have := hr2.out; omega), rfl⟩

theorem name_other (k : Int) (t : ByteArray) (w : World) (hk : (k == 3) = false) :
    Calls Ybad.prog 4 #[.int .i64 k, .string t] w fun e w' => e = .returned (.int .i64 0) ∧ w' = w := by
  go_enter Ybad.func4, Ybad.ntmps4
  go_wp2
  go_ret
  exact ⟨rfl, rfl⟩

/-! ### The law -/
theorem law_big (k : Int) (b : Bool) (s : ByteArray) (w : World) (hm : s.size ≤ 9223372036854775807) (h : 1048576 < s.size) :
    Calls Ybad.prog 3 #[.int .u8 k, .bool b, .string s] w fun e w' => e = .returned (.bool true) ∧ w' = w := by
  have h' : (1048576 : Int) < (s.size : Int) := by omega
  go_enter Ybad.func3, Ybad.ntmps3
  go_wp2
  go_ret
  exact ⟨rfl, rfl⟩

theorem law_other (k : Int) (b : Bool) (s : ByteArray) (w : World) (h0 : 0 ≤ k) (h255 : k ≤ 255) (h : s.size ≤ 1048576) (hk : (k % 6 == 3) = false) :
    Calls Ybad.prog 3 #[.int .u8 k, .bool b, .string s] w fun e w' => e = .returned (.bool true) ∧ w' = w := by
  cases b
  · go_enter Ybad.func3, Ybad.ntmps3
    go_wp2_with (go_at_call 4; refine (name_other _ _ _ hk).mono ?_; rintro e w' ⟨rfl, rfl⟩)
    go_ret
    exact ⟨rfl, rfl⟩
  · have hadd := fun (w : World) => run_string_add_sum (P := Ybad.prog) w
    go_enter Ybad.func3, Ybad.ntmps3
    go_wp2_with (go_at_call 4; refine (name_other _ _ _ hk).mono ?_; rintro e w' ⟨rfl, rfl⟩)
    go_ret
    exact ⟨rfl, rfl⟩

set_option maxHeartbeats 1000000 in
theorem law_hdr (k : Int) (b : Bool) (s : ByteArray) (w : World) (h0 : 0 ≤ k) (h255 : k ≤ 255) (h : s.size ≤ 1048576) (hk : k % 6 = 3)
    (htab : ∀ c : Nat, c < 256 → w.cell? ⟨0, c, none⟩ = some (.bool (isB (c : Int)))) :
    Calls Ybad.prog 3 #[.int .u8 k, .bool b, .string s] w fun e w' => e = .returned (.bool true) ∧ w' = w := by
  cases b
  · by_cases hz : s.size = 0
    · have hz' : ((s.size : Int) == 0) = true := by simp [hz]
      clear htab
      go_enter Ybad.func3, Ybad.ntmps3
      go_wp2_with fail
      go_ret
      exact ⟨rfl, rfl⟩
    have hz' : ((s.size : Int) == 0) = false := by simpa using hz
    have h1 : 1 ≤ s.size := by omega
    have hname := name_hdr s w h1 (by omega) htab
    clear htab hz
    go_enter Ybad.func3, Ybad.ntmps3
    go_wp2_with (go_at_call 4; refine hname.mono ?_; rintro e w' ⟨rfl, rfl⟩)
    go_loop [11] (fun i => ∃ j : Nat, 1 ≤ j ∧ j ≤ s.size ∧ i = .int .i64 j ∧ j + cnt (s.data.toList.drop j) = 1 + cnt (s.data.toList.drop 1)) (fun i => s.size - (intOf i).toNat)
    case atStart => exact ⟨1, by omega, by omega, rfl, rfl⟩
    case round =>
      obtain ⟨j, hj1, hj2, rfl, hr⟩ := hrel
      have HR : Hid (j + cnt (s.data.toList.drop j) = 1 + cnt (s.data.toList.drop 1)) := hr
      clear hr
      by_cases hlt : j < s.size
      · by_cases hc : isB ((s[j].toNat : Nat) : Int) = true
        · have HC : Hid (cnt (s.data.toList.drop j) = cnt (s.data.toList.drop (j + 1)) + 1) := cnt_hit s j hlt hc
          go_wp2_with (go_at_call 5; refine (isblank_any _ _).mono ?_; rintro e w' ⟨rfl, rfl⟩)
          go_round
          case rel => exact ⟨j + 1, by omega, by omega, by go_num, by have := HR.out; have := HC.out; omega⟩
          case measure => simp [intOf]; omega
        · have hc' : isB ((s[j].toNat : Nat) : Int) = false := by simpa using hc
          have HC : Hid (cnt (s.data.toList.drop j) = 0) := cnt_miss s j hlt hc'
          clear hc
          go_wp2_with (go_at_call 5; refine (isblank_any _ _).mono ?_; rintro e w' ⟨rfl, rfl⟩)
          go_ret
          exact ⟨ret_bool (by have h8 := HR.out; have h9 := HC.out; simp only [List.drop_one] at h8; rw [beq_iff_eq]; omega), rfl⟩
      · have HC : Hid (cnt (s.data.toList.drop j) = 0) := cnt_end s j (by omega)
        go_wp2_with (go_at_call 5; refine (isblank_any _ _).mono ?_; rintro e w' ⟨rfl, rfl⟩)
        go_ret
        exact ⟨ret_bool (by have h8 := HR.out; have h9 := HC.out; simp only [List.drop_one] at h8; rw [beq_iff_eq]; omega), rfl⟩
  · have hadd := fun (w : World) => run_string_add_sum (P := Ybad.prog) w
    have hsz : (({ data := #[91] } : ByteArray) ++ s).size = s.size + 1 := by simp [ByteArray.size_append]; rw [Nat.add_comm]; rfl
    obtain ⟨t, ht⟩ : ∃ t, ({ data := #[91] } : ByteArray) ++ s = t := ⟨_, rfl⟩
    rw [ht] at hsz
    have h1 : 1 ≤ t.size := by omega
    have h2 : t.size ≤ 1048577 := by omega
    have hz' : ((t.size : Int) == 0) = false := by rw [beq_eq_false_iff_ne]; omega
    clear hsz
    have hname := name_hdr t w h1 h2 htab
    clear htab
    go_enter Ybad.func3, Ybad.ntmps3
    go_wp2_with (go_at_call 4; refine hname.mono ?_; rintro e w' ⟨rfl, rfl⟩)
    go_loop [11] (fun i => ∃ j : Nat, 1 ≤ j ∧ j ≤ t.size ∧ i = .int .i64 j ∧ j + cnt (t.data.toList.drop j) = 1 + cnt (t.data.toList.drop 1)) (fun i => t.size - (intOf i).toNat)
    case atStart => exact ⟨1, by omega, by omega, rfl, rfl⟩
    case round =>
      obtain ⟨j, hj1, hj2, rfl, hr⟩ := hrel
      have HR : Hid (j + cnt (t.data.toList.drop j) = 1 + cnt (t.data.toList.drop 1)) := hr
      clear hr
      by_cases hlt : j < t.size
      · by_cases hc : isB ((t[j].toNat : Nat) : Int) = true
        · have HC : Hid (cnt (t.data.toList.drop j) = cnt (t.data.toList.drop (j + 1)) + 1) := cnt_hit t j hlt hc
          go_wp2_with (go_at_call 5; refine (isblank_any _ _).mono ?_; rintro e w' ⟨rfl, rfl⟩)
          go_round
          case rel => exact ⟨j + 1, by omega, by omega, by go_num, by have := HR.out; have := HC.out; omega⟩
          case measure => simp [intOf]; omega
        · have hc' : isB ((t[j].toNat : Nat) : Int) = false := by simpa using hc
          have HC : Hid (cnt (t.data.toList.drop j) = 0) := cnt_miss t j hlt hc'
          clear hc
          go_wp2_with (go_at_call 5; refine (isblank_any _ _).mono ?_; rintro e w' ⟨rfl, rfl⟩)
          go_ret
          exact ⟨ret_bool (by have h8 := HR.out; have h9 := HC.out; simp only [List.drop_one] at h8; rw [beq_iff_eq]; omega), rfl⟩
      · have HC : Hid (cnt (t.data.toList.drop j) = 0) := cnt_end t j (by omega)
        go_wp2_with (go_at_call 5; refine (isblank_any _ _).mono ?_; rintro e w' ⟨rfl, rfl⟩)
        go_ret
        exact ⟨ret_bool (by have h8 := HR.out; have h9 := HC.out; simp only [List.drop_one] at h8; rw [beq_iff_eq]; omega), rfl⟩

theorem law_any (k : Int) (b : Bool) (s : ByteArray) (w : World) (h0 : 0 ≤ k) (h255 : k ≤ 255) (hm : s.size ≤ 9223372036854775807)
    (htab : ∀ c : Nat, c < 256 → w.cell? ⟨0, c, none⟩ = some (.bool (isB (c : Int)))) :
    Calls Ybad.prog 3 #[.int .u8 k, .bool b, .string s] w fun e w' => e = .returned (.bool true) ∧ w' = w := by
  by_cases h : 1048576 < s.size
  · exact law_big k b s w hm h
  by_cases hk : k % 6 = 3
  · exact law_hdr k b s w h0 h255 (by omega) hk htab
  · exact law_other k b s w h0 h255 (by omega) (by simpa using hk)
end Go.Proofs.YbulkdrbgDoor.Steps
