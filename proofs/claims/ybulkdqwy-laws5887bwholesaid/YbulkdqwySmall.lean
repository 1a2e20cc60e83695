/-
  LawS5887BWhole: the small callees: NewInt, low64, Int64.
-/
import Derived.Test.YbulkdqwyShapes
namespace Go.Proofs.Ybulkdqwy.M
open Go.RowKit
set_option linter.unusedVariables false
set_option linter.unusedSimpArgs false
set_option maxRecDepth 100000 in
theorem newInt_zero (w : World) :
    Calls Yba.prog 4 #[.int .i64 0] w fun e w' => e = .returned (.pointer (some ⟨w.heap.size, 0, none⟩)) ∧ w' = w.alloc (.cells #[.bool false, .slice none 0 0] 34) := by
  go_enter Yba.func4, Yba.ntmps4
  go_wp2
  go_ret
  exact ⟨rfl, rfl⟩
set_option maxRecDepth 100000 in
theorem newInt_pos (n : Int) (hn : 1 ≤ n) (hn2 : n ≤ 2147483648) (w : World) :
    Calls Yba.prog 4 #[.int .i64 n] w fun e w' => e = .returned (.pointer (some ⟨w.heap.size + 1, 0, none⟩)) ∧ w' = (w.alloc (.cells #[.int .u64 n] 31)).alloc (.cells #[.bool false, .slice (some ⟨w.heap.size, 0, none⟩) 1 1] 34) := by
  have b1 : (n == 0) = false := by simp; omega
  have b2 : decide (n < 0) = false := decide_eq_false (by omega)
  go_enter Yba.func4, Yba.ntmps4
  go_wp2
  go_ret
  exact ⟨rfl, rfl⟩
set_option maxRecDepth 100000 in
theorem newInt_neg (n m : Int) (hm : -n = m) (hn : 1 ≤ m) (hn2 : m ≤ 2147483648) (w : World) :
    Calls Yba.prog 4 #[.int .i64 n] w fun e w' => e = .returned (.pointer (some ⟨w.heap.size + 1, 0, none⟩)) ∧ w' = (w.alloc (.cells #[.int .u64 m] 31)).alloc (.cells #[.bool true, .slice (some ⟨w.heap.size, 0, none⟩) 1 1] 34) := by
  have hw : IntKind.u64.wrap (-IntKind.u64.wrap n) = m := by
    simp only [IntKind.wrap_u64]
    omega
  have b1 : (n == 0) = false := by simp; omega
  go_enter Yba.func4, Yba.ntmps4
  go_wp2
  go_ret
  exact ⟨rfl, rfl⟩
set_option maxRecDepth 100000 in
theorem low_0 (a : Option Addr) (c : Nat) (w : World) : Calls Yba.prog 17 #[.slice a 0 c] w fun e w' => e = .returned (.int .u64 0) ∧ w' = w := by
  go_enter Yba.func17, Yba.ntmps17
  go_wp2
  go_ret
  exact ⟨rfl, rfl⟩
set_option maxRecDepth 100000 in
theorem low_1 (B c : Nat) (n : Int) (w : World) (hB : w.cell? ⟨B, 0, none⟩ = some (.int .u64 n)) : Calls Yba.prog 17 #[.slice (some ⟨B, 0, none⟩) 1 c] w fun e w' => e = .returned (.int .u64 n) ∧ w' = w := by
  go_enter Yba.func17, Yba.ntmps17
  go_wp2
  go_ret
  exact ⟨rfl, rfl⟩
end Go.Proofs.Ybulkdqwy.M
