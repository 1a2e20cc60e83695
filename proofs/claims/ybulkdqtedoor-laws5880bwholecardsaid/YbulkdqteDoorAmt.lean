/-
  LawS5880BWhole: the contracts of the small callees: math/bits.Mul64 at (n, 1), zzs5880bamt with FromUint in place, and (*ladder).better with Cmp and greater in place, at amounts below 2^16 (their high word is 0).
-/
import Derived.Test.YbulkdqteDoorRows
import Derived.WalkKit
import Derived.ProofKit
import Derived.OpenShut
import Derived.ShutString
import Derived.Laws.MathBits
namespace Go.Proofs.YbulkdqteDoor.B
open Go.ChangeShapes Go.WideShapes Go.ChangeAt Go.RowKit

abbrev am (n : Int) : Value := .agg #[.int .u64 0, .int .u64 n]
set_option maxHeartbeats 1000000 in
set_option maxRecDepth 100000 in
theorem mul_any (n : Int) (h0 : 0 ≤ n) (h1 : n ≤ 65535) (w : World) :
    Calls Ybad.prog 8 #[.int .u64 n, .int .u64 1] w fun e w' => e = .returned (.tuple #[.int .u64 0, .int .u64 n]) ∧ w' = w := by
  have e1 : bits .and .u64 n 4294967295 = n := by rw [and_low32 n (by omega) (by omega)]; omega
  have e2 : bits .and .u64 1 4294967295 = 1 := by rw [and_low32 1 (by omega) (by omega)]; omega
  have e3 : bits .and .u64 0 4294967295 = 0 := by rw [and_low32 0 (by omega) (by omega)]; omega
  have e4 : n / 4294967296 = 0 := by omega
  go_enter Ybad.func8, Ybad.ntmps8
  go_wp2
  go_ret2
  exact ⟨rfl, rfl⟩
set_option maxHeartbeats 1000000 in
set_option maxRecDepth 100000 in
theorem amt_any (n : Int) (h0 : 0 ≤ n) (h1 : n ≤ 65535) (w : World) (hB : 0 < w.heap.size) (hp : w.cell? ⟨0, 0, none⟩ = some (.int .u64 1)) :
    Calls Ybad.prog 4 #[.int .u64 n] w fun e w' => e = .returned (am n) ∧ Below w.heap.size w w' := by
  go_enter Ybad.func4, Ybad.ntmps4
  go_wp2_with (first | (go_at_call 6; go_in) | (go_at_call 8; refine (mul_any n h0 h1 _).mono ?_; rintro e w' ⟨rfl, rfl⟩))
  refine bodyPost_ret (v := am n) (by simp [results, Ybad.results6, go_sem]) rfl ?_
  go_wp2
  exact bodyPost_ret (v := am n) (by simp [results, Ybad.results4, go_sem]) rfl ⟨rfl, ((Below.refl _ _).alloc (Nat.le_refl _) _).alloc (by simp) _⟩
set_option maxHeartbeats 1000000 in
set_option maxRecDepth 100000 in
theorem better_buy (L : Nat) (x y : Int) (w : World) (hs : w.cell? ⟨L, 1, none⟩ = some (.int .u8 0)) (hL : L < w.heap.size) :
    Calls Ybad.prog 7 #[.pointer (some ⟨L, 0, none⟩), am x, am y] w fun e w' => e = .returned (.bool (decide (y < x))) ∧ Below w.heap.size w w' := by
  rcases Int.lt_trichotomy x y with h | h | h
  · rw [show decide (y < x) = false from by simp; omega]
    go_enter Ybad.func7, Ybad.ntmps7
    go_wp2
    go_ret
    exact ⟨rfl, by repeat (first | exact Below.refl _ _ | refine Below.alloc ?_ (by simp <;> omega) _)⟩
  · subst h
    rw [show decide (x < x) = false from by simp]
    go_enter Ybad.func7, Ybad.ntmps7
    go_wp2
    go_ret
    exact ⟨rfl, by repeat (first | exact Below.refl _ _ | refine Below.alloc ?_ (by simp <;> omega) _)⟩
  · rw [show decide (y < x) = true from by simpa using h]
    go_enter Ybad.func7, Ybad.ntmps7
    go_wp2
    go_ret
    exact ⟨rfl, by repeat (first | exact Below.refl _ _ | refine Below.alloc ?_ (by simp <;> omega) _)⟩
set_option maxHeartbeats 1000000 in
set_option maxRecDepth 100000 in
theorem better_sell (L : Nat) (x y s : Int) (hs0 : (s == 0) = false) (w : World) (hs : w.cell? ⟨L, 1, none⟩ = some (.int .u8 s)) (hL : L < w.heap.size) :
    Calls Ybad.prog 7 #[.pointer (some ⟨L, 0, none⟩), am x, am y] w fun e w' => e = .returned (.bool (decide (x < y))) ∧ Below w.heap.size w w' := by
  rcases Int.lt_trichotomy x y with h | h | h
  · rw [show decide (x < y) = true from by simpa using h]
    go_enter Ybad.func7, Ybad.ntmps7
    go_wp2
    go_ret
    exact ⟨rfl, by repeat (first | exact Below.refl _ _ | refine Below.alloc ?_ (by simp <;> omega) _)⟩
  · subst h
    rw [show decide (x < x) = false from by simp]
    go_enter Ybad.func7, Ybad.ntmps7
    go_wp2
    go_ret
    exact ⟨rfl, by repeat (first | exact Below.refl _ _ | refine Below.alloc ?_ (by simp <;> omega) _)⟩
  · rw [show decide (x < y) = false from by simp; omega]
    go_enter Ybad.func7, Ybad.ntmps7
    go_wp2
    go_ret
    exact ⟨rfl, by repeat (first | exact Below.refl _ _ | refine Below.alloc ?_ (by simp <;> omega) _)⟩
end Go.Proofs.YbulkdqteDoor.B
