/-
  LawS5887BWhole: small naturals: sub at one word each; add, sub where a number is zero.
-/
import Derived.Test.YbulkdqwyAddSub
namespace Go.Proofs.Ybulkdqwy.M
open Go.RowKit
set_option linter.unusedVariables false
set_option linter.unusedSimpArgs false
set_option maxRecDepth 100000 in
set_option maxHeartbeats 1000000 in
theorem sub_11 (S X Y : Nat) (s x y : Int) (hx : 1 ≤ x) (hy : 1 ≤ y) (hb : x < 18446744073709551616) (hlt : y < x) (w : World) (hS : w.cell? ⟨S, 0, none⟩ = some (.int .u64 s)) (hf : w.frozen? ⟨S, 0, none⟩ = false) (hX : w.cell? ⟨X, 0, none⟩ = some (.int .u64 x)) (hY : w.cell? ⟨Y, 0, none⟩ = some (.int .u64 y)) :
    Calls Yba.prog 20 #[.slice (some ⟨S, 0, none⟩) 1 1, .slice (some ⟨X, 0, none⟩) 1 1, .slice (some ⟨Y, 0, none⟩) 1 1] w fun e w' => e = .returned (.slice (some ⟨S, 0, none⟩) 1 1) ∧ ∃ q, w' = (w.drewN q).setCell ⟨S, 0, none⟩ (.int .u64 (x - y)) := by
  have h28 := vv28
  go_enter Yba.func20, Yba.ntmps20
  go_wp2_with (go_at_call 23; refine (make1_old S _).mono ?_; rintro _ _ ⟨rfl, rfl⟩)
  go_region_held3 (fun _ => True) (trivial)
    (first | (go_at_call 9; refine (subVV S X Y _ _ _ x y s (by omega) (by omega) (by omega) hb _ ?_ ?_ ?_ ?_).mono ?_; (exact hX); (exact hY); (exact hS); (exact hf); rintro e w' ⟨rfl, q, rfl⟩))
  go_wp2_with (go_at_call 26; refine (norm1_pos S (x - y) (by omega) _ (World.cell?_setCell_same _ _ _ (by exact hS))).mono ?_; rintro _ _ ⟨rfl, rfl⟩)
  go_ret
  exact ⟨rfl, _, rfl⟩
set_option maxRecDepth 100000 in
set_option maxHeartbeats 1000000 in
theorem sub_11_eq (S X Y : Nat) (s x y : Int) (hx : 1 ≤ x) (hy : 1 ≤ y) (hb : x < 18446744073709551616) (hlt : x - y = 0) (w : World) (hS : w.cell? ⟨S, 0, none⟩ = some (.int .u64 s)) (hf : w.frozen? ⟨S, 0, none⟩ = false) (hX : w.cell? ⟨X, 0, none⟩ = some (.int .u64 x)) (hY : w.cell? ⟨Y, 0, none⟩ = some (.int .u64 y)) :
    Calls Yba.prog 20 #[.slice (some ⟨S, 0, none⟩) 1 1, .slice (some ⟨X, 0, none⟩) 1 1, .slice (some ⟨Y, 0, none⟩) 1 1] w fun e w' => e = .returned (.slice (some ⟨S, 0, none⟩) 0 1) ∧ ∃ q, w' = (w.drewN q).setCell ⟨S, 0, none⟩ (.int .u64 (0)) := by
  have h28 := vv28
  go_enter Yba.func20, Yba.ntmps20
  go_wp2_with (go_at_call 23; refine (make1_old S _).mono ?_; rintro _ _ ⟨rfl, rfl⟩)
  go_region_held3 (fun _ => True) (trivial)
    (first | (go_at_call 9; refine (subVV S X Y _ _ _ x y s (by omega) (by omega) (by omega) hb _ ?_ ?_ ?_ ?_).mono ?_; (exact hX); (exact hY); (exact hS); (exact hf); rintro e w' ⟨rfl, q, rfl⟩))
  go_wp2_with (go_at_call 26; refine (norm1_zero S _ (World.cell?_setCell_same _ _ _ (by exact hS))).mono ?_; rintro _ _ ⟨rfl, rfl⟩)
  go_ret
  exact ⟨rfl, _, rfl⟩
set_option maxRecDepth 100000 in
theorem add_00 (w : World) : Calls Yba.prog 18 #[.slice none 0 0, .slice none 0 0, .slice none 0 0] w fun e w' => e = .returned (.slice none 0 0) ∧ w' = w := by
  go_enter Yba.func18, Yba.ntmps18
  go_wp2
  go_ret
  exact ⟨rfl, rfl⟩
set_option maxRecDepth 100000 in
theorem sub_00 (w : World) : Calls Yba.prog 20 #[.slice none 0 0, .slice none 0 0, .slice none 0 0] w fun e w' => e = .returned (.slice none 0 0) ∧ w' = w := by
  go_enter Yba.func20, Yba.ntmps20
  go_wp2
  go_ret
  exact ⟨rfl, rfl⟩
set_option maxRecDepth 100000 in
theorem add_new (X : Nat) (x : Int) (w : World) (hX : w.cell? ⟨X, 0, none⟩ = some (.int .u64 x)) :
    Calls Yba.prog 18 #[.slice none 0 0, .slice (some ⟨X, 0, none⟩) 1 1, .slice none 0 0] w fun e w' => e = .returned (.slice (some ⟨w.heap.size, 0, none⟩) 1 1) ∧ w' = w.alloc (.cells #[.int .u64 x] 31) := by
  go_enter Yba.func18, Yba.ntmps18
  go_wp2_with (go_at_call 22; refine (set_new X x _ hX).mono ?_; rintro _ _ ⟨rfl, rfl⟩)
  go_ret
  exact ⟨rfl, rfl⟩
set_option maxRecDepth 100000 in
theorem add_01 (X : Nat) (x : Int) (w : World) (hX : w.cell? ⟨X, 0, none⟩ = some (.int .u64 x)) :
    Calls Yba.prog 18 #[.slice none 0 0, .slice none 0 0, .slice (some ⟨X, 0, none⟩) 1 1] w fun e w' => e = .returned (.slice (some ⟨w.heap.size, 0, none⟩) 1 1) ∧ w' = w.alloc (.cells #[.int .u64 x] 31) := by
  go_enter Yba.func18, Yba.ntmps18
  go_wp2_with (go_at_call 18; refine (add_new X x _ hX).mono ?_; rintro _ _ ⟨rfl, rfl⟩)
  go_ret
  exact ⟨rfl, rfl⟩
set_option maxRecDepth 100000 in
theorem add_10 (S : Nat) (s : Int) (w : World) (hS : w.cell? ⟨S, 0, none⟩ = some (.int .u64 s)) (hf : w.frozen? ⟨S, 0, none⟩ = false) :
    Calls Yba.prog 18 #[.slice (some ⟨S, 0, none⟩) 1 1, .slice (some ⟨S, 0, none⟩) 1 1, .slice none 0 0] w fun e w' => e = .returned (.slice (some ⟨S, 0, none⟩) 1 1) ∧ w' = w.setCell ⟨S, 0, none⟩ (.int .u64 s) := by
  go_enter Yba.func18, Yba.ntmps18
  go_wp2_with (go_at_call 22; refine (set_old S S s s _ hS hS hf).mono ?_; rintro _ _ ⟨rfl, rfl⟩)
  go_ret
  exact ⟨rfl, rfl⟩
set_option maxRecDepth 100000 in
theorem sub_10 (S : Nat) (s : Int) (w : World) (hS : w.cell? ⟨S, 0, none⟩ = some (.int .u64 s)) (hf : w.frozen? ⟨S, 0, none⟩ = false) :
    Calls Yba.prog 20 #[.slice (some ⟨S, 0, none⟩) 1 1, .slice (some ⟨S, 0, none⟩) 1 1, .slice none 0 0] w fun e w' => e = .returned (.slice (some ⟨S, 0, none⟩) 1 1) ∧ w' = w.setCell ⟨S, 0, none⟩ (.int .u64 s) := by
  go_enter Yba.func20, Yba.ntmps20
  go_wp2_with (go_at_call 22; refine (set_old S S s s _ hS hS hf).mono ?_; rintro _ _ ⟨rfl, rfl⟩)
  go_ret
  exact ⟨rfl, rfl⟩
set_option maxRecDepth 100000 in
theorem sub_new (X : Nat) (x : Int) (w : World) (hX : w.cell? ⟨X, 0, none⟩ = some (.int .u64 x)) :
    Calls Yba.prog 20 #[.slice none 0 0, .slice (some ⟨X, 0, none⟩) 1 1, .slice none 0 0] w fun e w' => e = .returned (.slice (some ⟨w.heap.size, 0, none⟩) 1 1) ∧ w' = w.alloc (.cells #[.int .u64 x] 31) := by
  go_enter Yba.func20, Yba.ntmps20
  go_wp2_with (go_at_call 22; refine (set_new X x _ hX).mono ?_; rintro _ _ ⟨rfl, rfl⟩)
  go_ret
  exact ⟨rfl, rfl⟩
end Go.Proofs.Ybulkdqwy.M
