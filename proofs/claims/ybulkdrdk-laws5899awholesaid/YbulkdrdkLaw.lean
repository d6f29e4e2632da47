/-
  the law, whole
-/
import Derived.Test.YbulkdrdkL4
namespace Go.Proofs.Ybulkdrdk.Parts
open Go.ChangeShapes Go.WideShapes Go.ChangeAt Go.RowKit
set_option linter.unusedVariables false

set_option maxRecDepth 100000 in
set_option maxHeartbeats 1000000 in
theorem law_any (ao : Option Addr) (n c : Nat) (pick least tm : Int) (mal inv : Bool) (name id op : ByteArray) (w : World) (Ns Rs : Nat → ByteArray) (Nm Md : Nat → Int) (hM : Ms w ao n Ns Rs Nm Md) (hn : n * 48 ≤ 140737488351232) (hp : 0 ≤ pick ∧ pick ≤ 255) (hnm : name.size ≤ 140737488351232) :
    Calls Yba.prog 3 #[.slice ao n c, .int .u8 pick, .string name, .int .i64 least, .bool mal, .bool inv, .string id, .string op, .int .i64 tm] w (LawPost w) := by
  have HM : Hid (Ms w ao n Ns Rs Nm Md) := hM
  clear hM
  go_enter Yba.func3, Yba.ntmps3
  refine wp_seq_k fun K hK => ?_
  have HK : Hid _ := hK
  clear hK
  go_wp2_with fail
  refine HK.out _ _ ?_
  clear HK K
  refine wp_seq_k fun K hK => ?_
  have HK : Hid _ := hK
  clear hK
  go_wp2_with fail
  refine HK.out _ _ ?_
  clear HK K
  refine wp_seq_k fun K hK => ?_
  have HK : Hid _ := hK
  clear hK
  go_wp2_with fail
  go_loopw [19, 20] (fun x i wr => ∃ (k q : Nat) (T : Int), k ≤ n ∧ i = .int .i64 k ∧ x = .int .i64 T ∧ wr = w.drewN q) (fun _ i _ => n - (intOf i).toNat)
  case atStart => exact ⟨0, 0, _, by omega, rfl, rfl, rfl⟩
  case round =>
    obtain ⟨k, q, T, hk, rfl, rfl, rfl⟩ := hrel
    by_cases hlt : k < n
    · obtain ⟨b, o, rfl, hb, y0, y1, y2, y3, s0, s1, hNm, hMd⟩ := HM.out k hlt
      go_wp2_with fail
      go_quiet (fail)
      go_wp2_with fail
      go_roundw
      case rel => exact ⟨k + 1, _, _, by omega, by go_num, rfl, rfl⟩
      case measure => simp [intOf]; omega
    · obtain rfl : k = n := by omega
      clear hk hlt
      go_wp2_with fail
      refine HK.out _ _ ?_
      clear HK
      refine wp_seq_k fun K2 hK => ?_
      have HK : Hid _ := hK
      clear hK
      have hbl : Below w.heap.size w (w.drewN q) := ⟨rfl, rfl, rfl, Nat.le_refl _, fun _ _ => rfl⟩
      have HBL : Hid (Below w.heap.size w (w.drewN q)) := hbl
      clear hbl
      by_cases hT : 1048576 < T
      · go_wp2_with fail
        go_ret
        exact ⟨rfl, HBL.out⟩
      · go_wp2_with fail
        refine HK.out _ _ ?_
        exact p3_4 ao _ c pick least tm mal inv name id op w Ns Rs Nm Md _ _ _ _ _ _ _ _ _ _ _ _ _ _ _ _ _ _ _ _ _ _ _ _ _ _ _ _ _ _ _ _ _ _ _ _ _ _ _ _ _ _ _ _ _ _ _ _ _ _ _ _ _ _ _ _ _ _ _ _ _ _ _ _ _ _ _ _ _ _ _ _ _ _ _ _ _ _ _ _ _ _ _ _ _ _ _ _ _ _ _ _ _ _ _ _ _ _ _ _ _ _ _ _ _ _ _ _ _ _ _ _ _ _ _ _ _ _ _ _ _ _ _ _ _ _ _ _ _ _ _ _ _ _ _ _ _ _ _ _ _ _ _ _ _ _ _ _ _ _ _ _ _ _ _ _ _ _ _ _ _ _ _ _ _ _ _ _ _ _ _ _ _ _ _ _ _ _ _ _ _ _ _ _ _ _ _ _ _ _ _ _ _ _ _ _ _ _ _ _ _ _ _ _ _ _ _ _ _ _ _ _ _ _ _ _ _ _ _ _ _ _ _ _ _ _ _ _ _ _ _ _ _ _ _ _ _ _ _ _ _ _ _ _ _ _ _ _ HM.out HBL.out hn hp
end Go.Proofs.Ybulkdrdk.Parts
