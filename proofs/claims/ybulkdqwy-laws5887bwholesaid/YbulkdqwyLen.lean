/-
  LawS5887BWhole: bits.Len64, Len, bitLen, BitLen: at most 63.
-/
import Derived.Test.YbulkdqwySmall
namespace Go.Proofs.Ybulkdqwy.M
open Go.RowKit
set_option linter.unusedVariables false
theorem get_le (a : Array UInt8) (h : a.all (fun b => decide (b.toNat ≤ 8)) = true) (i : Nat) (hi : i < (ByteArray.mk a).size) : (ByteArray.mk a)[i].toNat ≤ 8 := by
  have := Array.all_eq_true.1 h i hi
  exact of_decide_eq_true this
theorem wrap_small (v : Nat) (c : Int) (h : v ≤ 8) (hc : 0 ≤ c) (hc2 : c ≤ 32) : 0 ≤ wrap64 (c + wrap64 (v : Int)) ∧ wrap64 (c + wrap64 (v : Int)) ≤ 63 := by
  simp only [wrap64]; omega
theorem wrap_small0 (v : Nat) (h : v ≤ 8) : 0 ≤ wrap64 (wrap64 (v : Int)) ∧ wrap64 (wrap64 (v : Int)) ≤ 63 := by
  simp only [wrap64]; omega
set_option maxRecDepth 100000 in
set_option maxHeartbeats 1000000 in
theorem len64 (x : Int) (h0 : 0 ≤ x) (h1 : x < 8589934592) (w : World) : Calls Yba.prog 32 #[.int .u64 x] w fun e w' => ∃ k, e = .returned (.int .i64 k) ∧ (0 ≤ k ∧ k ≤ 63) ∧ w' = w := by
  by_cases c1 : 4294967296 ≤ x
  · have e1 : x / 4294967296 = 1 := by omega
    go_enter Yba.func32, Yba.ntmps32
    go_wp2
    go_ret
    refine ⟨_, rfl, wrap_small _ _ (get_le _ ?_ _ _) (by decide) (by decide), rfl⟩
    decide +kernel
  by_cases c2 : 65536 ≤ x
  · obtain ⟨y, hy⟩ : ∃ y, x / 65536 = y := ⟨_, rfl⟩
    have y0 : 0 ≤ y := by omega
    have y1 : y < 65536 := by omega
    by_cases c3 : 256 ≤ y
    · obtain ⟨z, hz⟩ : ∃ z, y / 256 = z := ⟨_, rfl⟩
      have z0 : 0 ≤ z := by omega
      have z1 : z < 256 := by omega
      go_enter Yba.func32, Yba.ntmps32
      go_wp2
      go_ret
      refine ⟨_, rfl, wrap_small _ _ (get_le _ ?_ _ _) (by decide) (by decide), rfl⟩
      decide +kernel
    · go_enter Yba.func32, Yba.ntmps32
      go_wp2
      go_ret
      refine ⟨_, rfl, wrap_small _ _ (get_le _ ?_ _ _) (by decide) (by decide), rfl⟩
      decide +kernel
  · by_cases c3 : 256 ≤ x
    · obtain ⟨z, hz⟩ : ∃ z, x / 256 = z := ⟨_, rfl⟩
      have z0 : 0 ≤ z := by omega
      have z1 : z < 256 := by omega
      go_enter Yba.func32, Yba.ntmps32
      go_wp2
      go_ret
      refine ⟨_, rfl, wrap_small _ _ (get_le _ ?_ _ _) (by decide) (by decide), rfl⟩
      decide +kernel
    · go_enter Yba.func32, Yba.ntmps32
      go_wp2
      go_ret
      refine ⟨_, rfl, wrap_small0 _ (get_le _ ?_ _ _), rfl⟩
      decide +kernel
end Go.Proofs.Ybulkdqwy.M
