/-
  the law, whole
-/
import Derived.Test.YbulkdqzcCP2
namespace Go.Proofs.Ybulkdqzc.PartsC
open Go.ChangeShapes Go.WideShapes Go.ChangeAt Go.RowKit
set_option linter.unusedVariables false

set_option maxRecDepth 100000 in
set_option maxHeartbeats 4000000 in
theorem law_any (a1 a2 a3 : Option Addr) (n1 k1 n2 k2 n3 k3 : Nat) (c0 c1 c2 c3 c4 c5 c6 c7 c8 c9 f : Int) (Z1 Z2 : Nat → Nat → Int) (S0 : Nat → Int) (w : World) (hsum : n1 + n2 + n3 ≤ 1048576)
    (hz1 : Zs w a1 n1 Z1) (hz2 : Zs w a2 n2 Z2) (hs : Bs w a3 n3 S0) (hn : a3 = none → n3 = 0 ∧ k3 = 0) (hc0 : 0 ≤ c0 ∧ c0 ≤ 4294967295) (hf : 0 ≤ f ∧ f ≤ 4294967295) :
    Calls Yba.prog 5 #[.slice a1 n1 k1, .slice a2 n2 k2, .slice a3 n3 k3, zv c0 c1 c2 c3 c4 c5 c6 c7 c8 c9, .int .u32 f] w (LawPost w) := by
  have Hs : Hid (Bs w a3 n3 S0) := hs
  have Hz1 : Hid (Zs w a1 n1 Z1) := hz1
  have Hz2 : Hid (Zs w a2 n2 Z2) := hz2
  have Hn : Hid (a3 = none → n3 = 0 ∧ k3 = 0) := hn
  clear hs hz1 hz2 hn
  go_enter Yba.func5, Yba.ntmps5
  refine wp_seq_k fun K hK => ?_
  have HK : Hid _ := hK
  clear hK
  go_wp2_with fail
  refine HK.out _ _ ?_
  clear HK K
  have B0 : ¬ (1048576 : Int) < (n1 : Int) + (n2 : Int) + (n3 : Int) := by omega
  refine wp_seq_k fun K hK => ?_
  have HK : Hid _ := hK
  clear hK
  go_wp2_with fail
  refine HK.out _ _ ?_
  clear HK K
  exact ph2 a1 a2 a3 n1 k1 n2 k2 n3 k3 c0 c1 c2 c3 c4 c5 c6 c7 c8 c9 f w Z1 Z2 S0 _ _ _ _ _ _ _ _ _ _ _ _ _ _ _ _ _ _ _ _ _ _ _ _ _ _ _ _ _ _ _ _ _ _ _ _ _ _ _ _ _ _ _ _ _ _ _ _ _ _ _ _ _ _ _ _ _ _ _ _ _ _ _ _ _ _ _ _ _ _ _ _ _ _ _ _ _ _ _ _ _ _ _ _ _ _ _ _ _ _ _ _ _ _ _ _ _ _ _ _ _ _ _ _ _ _ _ _ _ _ _ _ _ _ _ _ _ _ _ _ _ _ _ _ _ _ _ _ _ _ _ _ _ _ _ _ _ _ _ _ _ _ _ _ _ _ _ _ _ _ _ _ _ _ _ _ _ _ _ _ _ _ _ _ _ _ _ _ _ _ _ _ _ _ _ _ _ _ _ _ _ _ _ _ _ _ _ _ _ _ _ _ _ _ _ _ _ _ _ _ _ _ _ _ _ _ _ _ _ _ _ _ _ _ _ _ _ _ _ _ _ _ _ _ _ _ _ _ _ _ _ _ _ _ _ _ _ _ _ _ _ _ _ _ _ _ _ _ _ _ _ _ _ _ _ _ _ _ _ _ _ _ _ _ _ _ _ _ _ _ _ _ _ _ _ _ _ _ _ _ _ _ _ _ _ _ _ _ _ _ _ _ _ _ _ _ _ _ _ _ _ _ _ _ _ _ _ _ _ _ _ _ _ _ _ _ _ _ _ _ _ _ _ _ _ _ _ _ _ ((Below.refl _ _).alloc (Nat.le_refl _) _) (zobj_at (Deep.blk_alloc_new _ _)) (by simp) Hs.out Hn.out Hz1.out Hz2.out hsum hc0 hf
end Go.Proofs.Ybulkdqzc.PartsC
