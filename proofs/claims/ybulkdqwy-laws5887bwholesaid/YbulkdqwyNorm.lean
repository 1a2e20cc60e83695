/-
  LawS5887BWhole: small naturals: norm, cmp.
-/
import Derived.Test.YbulkdqwyNats
namespace Go.Proofs.Ybulkdqwy.M
open Go.RowKit
set_option linter.unusedVariables false
set_option linter.unusedSimpArgs false
set_option maxRecDepth 100000 in
theorem norm1_pos (B : Nat) (n : Int) (hn : 1 ≤ n) (w : World) (hB : w.cell? ⟨B, 0, none⟩ = some (.int .u64 n)) :
    Calls Yba.prog 26 #[.slice (some ⟨B, 0, none⟩) 1 1] w fun e w' => e = .returned (.slice (some ⟨B, 0, none⟩) 1 1) ∧ w' = w := by
  have b1 : (n == 0) = false := by simp; omega
  go_enter Yba.func26, Yba.ntmps26
  go_wp2
  go_loopw [3] (fun i wr => i = .int .i64 1 ∧ wr = w) (fun _ _ => 0)
  case atStart => exact ⟨rfl, rfl⟩
  case round =>
    obtain ⟨rfl, rfl⟩ := hrel
    go_wp2
    go_ret
    exact ⟨rfl, rfl⟩
set_option maxRecDepth 100000 in
theorem norm1_zero (B : Nat) (w : World) (hB : w.cell? ⟨B, 0, none⟩ = some (.int .u64 0)) :
    Calls Yba.prog 26 #[.slice (some ⟨B, 0, none⟩) 1 1] w fun e w' => e = .returned (.slice (some ⟨B, 0, none⟩) 0 1) ∧ w' = w := by
  go_enter Yba.func26, Yba.ntmps26
  go_wp2
  go_loopw [3] (fun i wr => (i = .int .i64 1 ∨ i = .int .i64 0) ∧ wr = w) (fun i _ => (intOf i).toNat)
  case atStart => exact ⟨.inl rfl, rfl⟩
  case round =>
    obtain ⟨rfl | rfl, rfl⟩ := hrel
    · go_wp2
      go_roundw
      case rel => exact ⟨.inr (by go_num), trivial⟩
      case measure => simp [intOf]
    · go_wp2
      go_ret
      exact ⟨rfl, rfl⟩
set_option maxRecDepth 100000 in
theorem norm2 (B : Nat) (n : Int) (hn : 1 ≤ n) (w : World) (hB : w.cell? ⟨B, 0, none⟩ = some (.int .u64 n)) (hB1 : w.cell? ⟨B, 1, none⟩ = some (.int .u64 0)) :
    Calls Yba.prog 26 #[.slice (some ⟨B, 0, none⟩) 2 6] w fun e w' => e = .returned (.slice (some ⟨B, 0, none⟩) 1 6) ∧ w' = w := by
  have b1 : (n == 0) = false := by simp; omega
  go_enter Yba.func26, Yba.ntmps26
  go_wp2
  go_loopw [3] (fun i wr => (i = .int .i64 2 ∨ i = .int .i64 1) ∧ wr = w) (fun i _ => (intOf i).toNat)
  case atStart => exact ⟨.inl rfl, rfl⟩
  case round =>
    obtain ⟨rfl | rfl, rfl⟩ := hrel
    · go_wp2
      go_roundw
      case rel => exact ⟨.inr (by go_num), trivial⟩
      case measure => simp [intOf]
    · go_wp2
      go_ret
      exact ⟨rfl, rfl⟩
set_option maxRecDepth 100000 in
theorem cmp_00 (w : World) : Calls Yba.prog 19 #[.slice none 0 0, .slice none 0 0] w fun e w' => e = .returned (.int .i64 0) ∧ w' = w := by
  go_enter Yba.func19, Yba.ntmps19
  go_wp2
  go_ret
  exact ⟨rfl, rfl⟩
set_option maxRecDepth 100000 in
theorem cmp_01 (Y : Nat) (w : World) : Calls Yba.prog 19 #[.slice none 0 0, .slice (some ⟨Y, 0, none⟩) 1 1] w fun e w' => e = .returned (.int .i64 (-1)) ∧ w' = w := by
  go_enter Yba.func19, Yba.ntmps19
  go_wp2
  go_ret
  exact ⟨rfl, rfl⟩
set_option maxRecDepth 100000 in
theorem cmp_10 (X : Nat) (w : World) : Calls Yba.prog 19 #[.slice (some ⟨X, 0, none⟩) 1 1, .slice none 0 0] w fun e w' => e = .returned (.int .i64 1) ∧ w' = w := by
  go_enter Yba.func19, Yba.ntmps19
  go_wp2
  go_ret
  exact ⟨rfl, rfl⟩
theorem d2 (w : World) (a b : Nat) : ∃ q, (w.drewN a).drewN b = w.drewN q := ⟨a + b, by simp [World.drewN, Nat.add_assoc]⟩
theorem d3 (w : World) (a b c : Nat) : ∃ q, ((w.drewN a).drewN b).drewN c = w.drewN q := ⟨a + b + c, by simp [World.drewN, Nat.add_assoc]⟩
def cmpN (x y : Int) : Int := if x < y then -1 else if y < x then 1 else 0
set_option maxRecDepth 100000 in
set_option maxHeartbeats 1000000 in
theorem cmp_11 (X Y : Nat) (x y c : Int) (hc : cmpN x y = c) (w : World) (hX : w.cell? ⟨X, 0, none⟩ = some (.int .u64 x)) (hY : w.cell? ⟨Y, 0, none⟩ = some (.int .u64 y)) :
    Calls Yba.prog 19 #[.slice (some ⟨X, 0, none⟩) 1 1, .slice (some ⟨Y, 0, none⟩) 1 1] w fun e w' => e = .returned (.int .i64 c) ∧ ∃ q, w' = w.drewN q := by
  unfold cmpN at hc
  go_enter Yba.func19, Yba.ntmps19
  go_wp2
  go_loopw [7] (fun i wr => i = .int .i64 0 ∧ wr = w) (fun _ _ => 0)
  case atStart => exact ⟨rfl, rfl⟩
  case round =>
    obtain ⟨rfl, rfl⟩ := hrel
    by_cases h1 : x < y
    · rw [if_pos h1] at hc
      subst hc
      go_wp2
      go_quiet (fail)
      go_wp2
      go_quiet (fail)
      go_wp2
      go_ret
      first | exact ⟨rfl, d2 _ _ _⟩ | exact ⟨rfl, d3 _ _ _ _⟩
    · rw [if_neg h1] at hc
      by_cases h2 : y < x
      · rw [if_pos h2] at hc
        subst hc
        go_wp2
        go_quiet (fail)
        go_wp2
        go_quiet (fail)
        go_wp2
        go_quiet (fail)
        go_wp2
        go_ret
        first | exact ⟨rfl, d2 _ _ _⟩ | exact ⟨rfl, d3 _ _ _ _⟩
      · rw [if_neg h2] at hc
        subst hc
        go_wp2
        go_quiet (fail)
        go_wp2
        go_quiet (fail)
        go_wp2
        go_quiet (fail)
        go_wp2
        go_ret
        first | exact ⟨rfl, d2 _ _ _⟩ | exact ⟨rfl, d3 _ _ _ _⟩
end Go.Proofs.Ybulkdqwy.M
