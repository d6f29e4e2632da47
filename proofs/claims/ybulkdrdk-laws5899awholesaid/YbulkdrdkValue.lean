/-
  zzs5899avalue by its contract.
-/
import Derived.Test.YbulkdrdkItoa
namespace Go.Proofs.Ybulkdrdk.Parts
open Go.ChangeShapes Go.WideShapes Go.ChangeAt Go.RowKit

theorem enc_le (r : Int) : (Utf8.encode r).size ≤ 4 := by
  unfold Utf8.encode
  dsimp only
  split
  all_goals first | (show 1 ≤ 4; omega) | (show 2 ≤ 4; omega) | (show 3 ≤ 4; omega) | (show 4 ≤ 4; omega) | skip
  all_goals (split <;> first | (show 1 ≤ 4; omega) | (show 2 ≤ 4; omega) | (show 3 ≤ 4; omega) | (show 4 ≤ 4; omega) | skip)
  all_goals (split <;> first | (show 1 ≤ 4; omega) | (show 2 ≤ 4; omega) | (show 3 ≤ 4; omega) | (show 4 ≤ 4; omega) | skip)
  all_goals (split <;> first | (show 1 ≤ 4; omega) | (show 2 ≤ 4; omega) | (show 3 ≤ 4; omega) | (show 4 ≤ 4; omega) | skip)

set_option maxRecDepth 100000 in
theorem value_any (nm raw : ByteArray) (n m : Int) (w : World) (h1 : -9223372036854775808 ≤ n) (h2 : n ≤ 9223372036854775807) (hm : 0 ≤ m ∧ m ≤ 255) : Calls Yba.prog 5 #[.agg #[.string nm, .string raw, .int .i64 n, .int .u8 m]] w (StrPost w (raw.size + 32)) := by
  obtain ⟨r, hr⟩ : ∃ r, m % 4 = r := ⟨_, rfl⟩
  have hr2 : r = 0 ∨ r = 1 ∨ r = 2 ∨ r = 3 := by omega
  have HI : Hid (∀ W, Calls Yba.prog 10 #[.int .i64 n] W (StrPost W 24)) := fun W => itoa_any n W h1 h2
  have hba : Below w.heap.size w (w.alloc (.cells #[.string nm, .string raw, .int .i64 n, .int .u8 m] 24)) := (Below.refl _ _).alloc (Nat.le_refl _) _
  have HBA : Hid (Below w.heap.size w (w.alloc (.cells #[.string nm, .string raw, .int .i64 n, .int .u8 m] 24))) := hba
  clear hba
  go_enter Yba.func5, Yba.ntmps5
  rcases hr2 with rfl | rfl | rfl | rfl
  · go_wp2_with fail
    go_ret
    exact ⟨_, rfl, by omega, HBA.out⟩
  · go_wp2_with (go_at_call 10; refine (HI.out _).mono ?_; rintro e w' ⟨s, rfl, hs, hb⟩)
    go_ret
    exact ⟨_, rfl, by omega, HBA.out.trans (hb.mono (by simp))⟩
  · go_wp2_with (go_at_call 10; refine (HI.out _).mono ?_; rintro e w' ⟨s, rfl, hs, hb⟩)
    go_ret
    exact ⟨_, rfl, by rw [ByteArray.size_append]; show s.size + 1 ≤ _; omega, HBA.out.trans (hb.mono (by simp))⟩
  · by_cases hn : n < 0
    · have he := enc_le ((48 + (IntKind.u64.wrap n).tmod 10) % 256)
      go_wp2_with fail
      all_goals first | omega | skip
      go_ret
      refine ⟨_, rfl, ?_, HBA.out⟩
      rw [ByteArray.size_append, ByteArray.size_append]
      show 1 + (18 + _) ≤ _
      omega
    · have he := enc_le (48 + n % 10)
      go_wp2_with fail
      all_goals first | omega | skip
      go_ret
      refine ⟨_, rfl, ?_, HBA.out⟩
      rw [ByteArray.size_append]
      show 18 + _ ≤ _
      omega
end Go.Proofs.Ybulkdrdk.Parts
