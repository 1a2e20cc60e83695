/-
  LawS5880AWhole: the walks at mode % 4 = 1, one a kind of v and of grand.
-/
import Derived.Test.YbulkdqteParts
namespace Go.Proofs.Ybulkdqte.lawS5880AWhole
open Go.ChangeShapes Go.WideShapes Go.ChangeAt Go.RowKit
set_option linter.unusedVariables false
set_option maxHeartbeats 1000000 in
set_option maxRecDepth 100000 in
theorem walk10t (a0 : Int) (a1 : Int) (h0 : a0 % 4 = 1) (h1 : a1 % 4 = 0) (b0 : 0 ≤ a0) (c0 : a0 ≤ 255) (b1 : 0 ≤ a1) (c1 : a1 ≤ 255) (w : World) :
    Calls Yba.prog 3 #[.int .u8 a0, .int .u8 a1, .bool true] w fun e w' => e = .returned (.bool true) ∧ Grown w w' := by
  have hz := zero44
  have hs := leafZ_size
  have h4 := leafZ_4
  have h5 := leafZ_5
  have h6 := leafZ_6
  have hes := eql_same
  have hns := neq_same
  go_enter Yba.func3, Yba.ntmps3
  go_wp2
  go_end0
  go_wp2
  go_ret
  exact ⟨rfl, by repeat (first | exact Grown.refl _ | apply Grown.drew | apply Grown.alloc)⟩
set_option maxHeartbeats 1000000 in
set_option maxRecDepth 100000 in
theorem walk10f (a0 : Int) (a1 : Int) (h0 : a0 % 4 = 1) (h1 : a1 % 4 = 0) (b0 : 0 ≤ a0) (c0 : a0 ≤ 255) (b1 : 0 ≤ a1) (c1 : a1 ≤ 255) (w : World) :
    Calls Yba.prog 3 #[.int .u8 a0, .int .u8 a1, .bool false] w fun e w' => e = .returned (.bool true) ∧ Grown w w' := by
  have hz := zero44
  have hs := leafZ_size
  have h4 := leafZ_4
  have h5 := leafZ_5
  have h6 := leafZ_6
  have hes := eql_same
  have hns := neq_same
  go_enter Yba.func3, Yba.ntmps3
  go_wp2
  go_end0
  go_wp2
  go_ret
  exact ⟨rfl, by repeat (first | exact Grown.refl _ | apply Grown.drew | apply Grown.alloc)⟩
set_option maxHeartbeats 1000000 in
set_option maxRecDepth 100000 in
theorem walk11t (a0 : Int) (a1 : Int) (h0 : a0 % 4 = 1) (h1 : a1 % 4 = 1) (b0 : 0 ≤ a0) (c0 : a0 ≤ 255) (b1 : 0 ≤ a1) (c1 : a1 ≤ 255) (w : World) :
    Calls Yba.prog 3 #[.int .u8 a0, .int .u8 a1, .bool true] w fun e w' => e = .returned (.bool true) ∧ Grown w w' := by
  have hz := zero44
  have hs := leafZ_size
  have h4 := leafZ_4
  have h5 := leafZ_5
  have h6 := leafZ_6
  have hes := eql_same
  have hns := neq_same
  go_enter Yba.func3, Yba.ntmps3
  go_wp2
  go_end0
  go_wp2
  go_ret
  exact ⟨rfl, by repeat (first | exact Grown.refl _ | apply Grown.drew | apply Grown.alloc)⟩
set_option maxHeartbeats 1000000 in
set_option maxRecDepth 100000 in
theorem walk11f (a0 : Int) (a1 : Int) (h0 : a0 % 4 = 1) (h1 : a1 % 4 = 1) (b0 : 0 ≤ a0) (c0 : a0 ≤ 255) (b1 : 0 ≤ a1) (c1 : a1 ≤ 255) (w : World) :
    Calls Yba.prog 3 #[.int .u8 a0, .int .u8 a1, .bool false] w fun e w' => e = .returned (.bool true) ∧ Grown w w' := by
  have hz := zero44
  have hs := leafZ_size
  have h4 := leafZ_4
  have h5 := leafZ_5
  have h6 := leafZ_6
  have hes := eql_same
  have hns := neq_same
  go_enter Yba.func3, Yba.ntmps3
  go_wp2
  go_end0
  go_wp2
  go_ret
  exact ⟨rfl, by repeat (first | exact Grown.refl _ | apply Grown.drew | apply Grown.alloc)⟩
set_option maxHeartbeats 1000000 in
set_option maxRecDepth 100000 in
theorem walk12t (a0 : Int) (a1 : Int) (h0 : a0 % 4 = 1) (h1 : a1 % 4 = 2) (b0 : 0 ≤ a0) (c0 : a0 ≤ 255) (b1 : 0 ≤ a1) (c1 : a1 ≤ 255) (w : World) :
    Calls Yba.prog 3 #[.int .u8 a0, .int .u8 a1, .bool true] w fun e w' => e = .returned (.bool true) ∧ Grown w w' := by
  have hz := zero44
  have hs := leafZ_size
  have h4 := leafZ_4
  have h5 := leafZ_5
  have h6 := leafZ_6
  have hes := eql_same
  have hns := neq_same
  go_enter Yba.func3, Yba.ntmps3
  go_wp2
  go_end0
  go_wp2
  go_ret
  exact ⟨rfl, by repeat (first | exact Grown.refl _ | apply Grown.drew | apply Grown.alloc)⟩
set_option maxHeartbeats 1000000 in
set_option maxRecDepth 100000 in
theorem walk12f (a0 : Int) (a1 : Int) (h0 : a0 % 4 = 1) (h1 : a1 % 4 = 2) (b0 : 0 ≤ a0) (c0 : a0 ≤ 255) (b1 : 0 ≤ a1) (c1 : a1 ≤ 255) (w : World) :
    Calls Yba.prog 3 #[.int .u8 a0, .int .u8 a1, .bool false] w fun e w' => e = .returned (.bool true) ∧ Grown w w' := by
  have hz := zero44
  have hs := leafZ_size
  have h4 := leafZ_4
  have h5 := leafZ_5
  have h6 := leafZ_6
  have hes := eql_same
  have hns := neq_same
  go_enter Yba.func3, Yba.ntmps3
  go_wp2
  go_end0
  go_wp2
  go_ret
  exact ⟨rfl, by repeat (first | exact Grown.refl _ | apply Grown.drew | apply Grown.alloc)⟩
set_option maxHeartbeats 1000000 in
set_option maxRecDepth 100000 in
theorem walk13t (a0 : Int) (a1 : Int) (h0 : a0 % 4 = 1) (h1 : a1 % 4 = 3) (b0 : 0 ≤ a0) (c0 : a0 ≤ 255) (b1 : 0 ≤ a1) (c1 : a1 ≤ 255) (w : World) :
    Calls Yba.prog 3 #[.int .u8 a0, .int .u8 a1, .bool true] w fun e w' => e = .returned (.bool true) ∧ Grown w w' := by
  have hz := zero44
  have hs := leafZ_size
  have h4 := leafZ_4
  have h5 := leafZ_5
  have h6 := leafZ_6
  have hes := eql_same
  have hns := neq_same
  go_enter Yba.func3, Yba.ntmps3
  go_wp2
  go_end0
  go_wp2
  go_ret
  exact ⟨rfl, by repeat (first | exact Grown.refl _ | apply Grown.drew | apply Grown.alloc)⟩
set_option maxHeartbeats 1000000 in
set_option maxRecDepth 100000 in
theorem walk13f (a0 : Int) (a1 : Int) (h0 : a0 % 4 = 1) (h1 : a1 % 4 = 3) (b0 : 0 ≤ a0) (c0 : a0 ≤ 255) (b1 : 0 ≤ a1) (c1 : a1 ≤ 255) (w : World) :
    Calls Yba.prog 3 #[.int .u8 a0, .int .u8 a1, .bool false] w fun e w' => e = .returned (.bool true) ∧ Grown w w' := by
  have hz := zero44
  have hs := leafZ_size
  have h4 := leafZ_4
  have h5 := leafZ_5
  have h6 := leafZ_6
  have hes := eql_same
  have hns := neq_same
  go_enter Yba.func3, Yba.ntmps3
  go_wp2
  go_end0
  go_wp2
  go_ret
  exact ⟨rfl, by repeat (first | exact Grown.refl _ | apply Grown.drew | apply Grown.alloc)⟩
end Go.Proofs.Ybulkdqte.lawS5880AWhole
