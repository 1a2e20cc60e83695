/-
  LawS5887BWhole: words: math/bits.Add64, Sub64, Add, Sub; the vector routines at one word.
-/
import Derived.Test.YbulkdqwyRows
import Derived.WalkKit
import Derived.WalkSmall
import Derived.Laws.Rows
import Derived.Laws.Externs
import Derived.Laws.Twins
import Derived.Deep.RegionHeld3
import Derived.Deep.QuietTactic
import Derived.BigQuiet
import Derived.Deep.DeepCutAuto
import Derived.Deep.CutBlock
namespace Go.Proofs.Ybulkdqwy.M
open Go.RowKit
set_option linter.unusedVariables false
theorem hidIt {p : Prop} (h : p) : Hid p := h
theorem add64 (x y : Int) (hx : 0 ≤ x) (hy : 0 ≤ y) (hs : x + y < 18446744073709551616) (w : World) : (callFunc 34 #[.int .u64 x, .int .u64 y, .int .u64 0]).run Yba.prog w =
    .ok (.value (.tuple #[.int .u64 (x + y), .int .u64 0])) w := by
  rw [run_callFunc_extern Yba.func34 (by kernel_rfl) (by kernel_rfl) (by kernel_rfl) (e := add64Entry) (by kernel_rfl), run_add64 x y 0 hx hy (by omega) (by omega)]
  simp only [Result.andThen]
  rw [show (x + y + 0) % 18446744073709551616 = x + y by omega, show (x + y + 0) / 18446744073709551616 = 0 by omega]
/-- The model's own entry for math/bits.Sub64: the second row of its table. -/
def sub64Entry : Array Value → Sem Value := (Extern.MathBitsCarry.rows[1]'(by decide)).2
theorem sub64 (x y : Int) (hx : 0 ≤ x) (hy : 0 ≤ y) (hs : y ≤ x) (hx2 : x < 18446744073709551616) (w : World) : (callFunc 36 #[.int .u64 x, .int .u64 y, .int .u64 0]).run Yba.prog w =
    .ok (.value (.tuple #[.int .u64 (x - y), .int .u64 0])) w := by
  obtain ⟨x, rfl⟩ := Int.eq_ofNat_of_zero_le hx
  obtain ⟨y, rfl⟩ := Int.eq_ofNat_of_zero_le hy
  rw [run_callFunc_extern Yba.func36 (by kernel_rfl) (by kernel_rfl) (by kernel_rfl) (e := sub64Entry) (by kernel_rfl)]
  have h : (sub64Entry #[.int .u64 (x : Int), .int .u64 (y : Int), .int .u64 0]).run Yba.prog w =
      .ok (.tuple #[.int .u64 (((x + 18446744073709551616 - y - 0) % 18446744073709551616 : Nat) : Int), .int .u64 ((if x < y + 0 then 1 else 0 : Nat) : Int)]) w := rfl
  rw [h, if_neg (by omega)]
  simp only [Result.andThen]
  rw [show (((x + 18446744073709551616 - y - 0) % 18446744073709551616 : Nat) : Int) = (x : Int) - (y : Int) by omega]
  rfl
set_option maxRecDepth 100000 in
theorem bitsAdd (x y : Int) (hx : 0 ≤ x) (hy : 0 ≤ y) (hs : x + y < 18446744073709551616) (w : World) :
    Calls Yba.prog 27 #[.int .u64 x, .int .u64 y, .int .u64 0] w fun e w' => e = .returned (.tuple #[.int .u64 (x + y), .int .u64 0]) ∧ w' = w := by
  have h := fun w => add64 x y hx hy hs w
  go_enter Yba.func27, Yba.ntmps27
  go_wp2
  go_ret2
  exact ⟨rfl, rfl⟩
set_option maxRecDepth 100000 in
theorem bitsSub (x y : Int) (hx : 0 ≤ x) (hy : 0 ≤ y) (hs : y ≤ x) (hx2 : x < 18446744073709551616) (w : World) :
    Calls Yba.prog 30 #[.int .u64 x, .int .u64 y, .int .u64 0] w fun e w' => e = .returned (.tuple #[.int .u64 (x - y), .int .u64 0]) ∧ w' = w := by
  have h := fun w => sub64 x y hx hy hs hx2 w
  go_enter Yba.func30, Yba.ntmps30
  go_wp2
  go_ret2
  exact ⟨rfl, rfl⟩
set_option maxRecDepth 100000 in
set_option maxHeartbeats 1000000 in
theorem addVV (Z X Y cz cx cy : Nat) (x y z : Int) (hx : 0 ≤ x) (hy : 0 ≤ y) (hs : x + y < 18446744073709551616) (w : World) (hX : w.cell? ⟨X, 0, none⟩ = some (.int .u64 x)) (hY : w.cell? ⟨Y, 0, none⟩ = some (.int .u64 y)) (hZ : w.cell? ⟨Z, 0, none⟩ = some (.int .u64 z)) (hf : w.frozen? ⟨Z, 0, none⟩ = false) :
    Calls Yba.prog 8 #[.slice (some ⟨Z, 0, none⟩) 1 cz, .slice (some ⟨X, 0, none⟩) 1 cx, .slice (some ⟨Y, 0, none⟩) 1 cy] w fun e w' => e = .returned (.int .u64 0) ∧ ∃ q, w' = (w.drewN q).setCell ⟨Z, 0, none⟩ (.int .u64 (x + y)) := by
  go_enter Yba.func8, Yba.ntmps8
  go_wp2
  go_loopw [6, 7, 8, 9, 25] (fun c _ _ _ i wr => c = .int .u64 0 ∧ ((i = .int .i64 0 ∧ wr = w) ∨ (i = .int .i64 1 ∧ ∃ q, wr = (w.drewN q).setCell ⟨Z, 0, none⟩ (.int .u64 (x + y)))))  (fun _ _ _ _ i _ => 1 - (intOf i).toNat)
  case atStart => exact ⟨rfl, .inl ⟨rfl, rfl⟩⟩
  case round =>
    obtain ⟨rfl, ⟨rfl, rfl⟩ | ⟨rfl, q, rfl⟩⟩ := hrel
    · go_wp2
      go_quiet (exact Calls.quiet_of_same (bitsAdd x y hx hy hs _))
      go_wp2
      go_roundw
      case rel => exact ⟨rfl, .inr ⟨by go_num, nq, rfl⟩⟩
      case measure => simp [intOf]
    · go_wp2
      go_ret
      exact ⟨rfl, q, rfl⟩
set_option maxRecDepth 100000 in
set_option maxHeartbeats 1000000 in
theorem subVV (Z X Y cz cx cy : Nat) (x y z : Int) (hx : 0 ≤ x) (hy : 0 ≤ y) (hs : y ≤ x) (hx2 : x < 18446744073709551616) (w : World) (hX : w.cell? ⟨X, 0, none⟩ = some (.int .u64 x)) (hY : w.cell? ⟨Y, 0, none⟩ = some (.int .u64 y)) (hZ : w.cell? ⟨Z, 0, none⟩ = some (.int .u64 z)) (hf : w.frozen? ⟨Z, 0, none⟩ = false) :
    Calls Yba.prog 9 #[.slice (some ⟨Z, 0, none⟩) 1 cz, .slice (some ⟨X, 0, none⟩) 1 cx, .slice (some ⟨Y, 0, none⟩) 1 cy] w fun e w' => e = .returned (.int .u64 0) ∧ ∃ q, w' = (w.drewN q).setCell ⟨Z, 0, none⟩ (.int .u64 (x - y)) := by
  go_enter Yba.func9, Yba.ntmps9
  go_wp2
  go_loopw [6, 7, 8, 9, 25] (fun c _ _ _ i wr => c = .int .u64 0 ∧ ((i = .int .i64 0 ∧ wr = w) ∨ (i = .int .i64 1 ∧ ∃ q, wr = (w.drewN q).setCell ⟨Z, 0, none⟩ (.int .u64 (x - y)))))  (fun _ _ _ _ i _ => 1 - (intOf i).toNat)
  case atStart => exact ⟨rfl, .inl ⟨rfl, rfl⟩⟩
  case round =>
    obtain ⟨rfl, ⟨rfl, rfl⟩ | ⟨rfl, q, rfl⟩⟩ := hrel
    · go_wp2
      go_quiet (exact Calls.quiet_of_same (bitsSub x y hx hy hs hx2 _))
      go_wp2
      go_roundw
      case rel => exact ⟨rfl, .inr ⟨by go_num, nq, rfl⟩⟩
      case measure => simp [intOf]
    · go_wp2
      go_ret
      exact ⟨rfl, q, rfl⟩
end Go.Proofs.Ybulkdqwy.M
