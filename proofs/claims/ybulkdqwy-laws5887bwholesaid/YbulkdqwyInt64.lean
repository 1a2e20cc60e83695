/-
  LawS5887BWhole: Int64, BitLen.
-/
import Derived.Test.YbulkdqwyLen
namespace Go.Proofs.Ybulkdqwy.M
open Go.RowKit
set_option linter.unusedVariables false
set_option linter.unusedSimpArgs false
set_option maxRecDepth 100000 in
theorem int64_0 (P c : Nat) (neg : Bool) (a : Option Addr) (w : World) (h0 : w.cell? ⟨P, 0, none⟩ = some (.bool neg)) (h1 : w.cell? ⟨P, 1, none⟩ = some (.slice a 0 c)) :
    Calls Yba.prog 7 #[.pointer (some ⟨P, 0, none⟩)] w fun e w' => e = .returned (.int .i64 0) ∧ w' = w := by
  cases neg
  · go_enter Yba.func7, Yba.ntmps7
    go_wp2_with (go_at_call 17; refine (low_0 a c _).mono ?_; rintro _ _ ⟨rfl, rfl⟩)
    go_ret
    exact ⟨rfl, rfl⟩
  · go_enter Yba.func7, Yba.ntmps7
    go_wp2_with (go_at_call 17; refine (low_0 a c _).mono ?_; rintro _ _ ⟨rfl, rfl⟩)
    go_ret
    exact ⟨rfl, rfl⟩
set_option maxRecDepth 100000 in
theorem int64_pos (P B c : Nat) (n : Int) (hn : 1 ≤ n) (hn2 : n ≤ 8589934592) (w : World) (h0 : w.cell? ⟨P, 0, none⟩ = some (.bool false)) (h1 : w.cell? ⟨P, 1, none⟩ = some (.slice (some ⟨B, 0, none⟩) 1 c)) (hB : w.cell? ⟨B, 0, none⟩ = some (.int .u64 n)) :
    Calls Yba.prog 7 #[.pointer (some ⟨P, 0, none⟩)] w fun e w' => e = .returned (.int .i64 n) ∧ w' = w := by
  go_enter Yba.func7, Yba.ntmps7
  go_wp2_with (go_at_call 17; refine (low_1 B c n _ hB).mono ?_; rintro _ _ ⟨rfl, rfl⟩)
  go_ret
  exact ⟨rfl, rfl⟩
set_option maxRecDepth 100000 in
theorem int64_neg (P B c : Nat) (n : Int) (hn : 1 ≤ n) (hn2 : n ≤ 8589934592) (w : World) (h0 : w.cell? ⟨P, 0, none⟩ = some (.bool true)) (h1 : w.cell? ⟨P, 1, none⟩ = some (.slice (some ⟨B, 0, none⟩) 1 c)) (hB : w.cell? ⟨B, 0, none⟩ = some (.int .u64 n)) :
    Calls Yba.prog 7 #[.pointer (some ⟨P, 0, none⟩)] w fun e w' => e = .returned (.int .i64 (-n)) ∧ w' = w := by
  go_enter Yba.func7, Yba.ntmps7
  go_wp2_with (go_at_call 17; refine (low_1 B c n _ hB).mono ?_; rintro _ _ ⟨rfl, rfl⟩)
  go_ret
  exact ⟨rfl, rfl⟩
set_option maxRecDepth 100000 in
theorem bitLen_0 (a : Option Addr) (c : Nat) (w : World) : Calls Yba.prog 16 #[.slice a 0 c] w fun e w' => e = .returned (.int .i64 0) ∧ w' = w := by
  go_enter Yba.func16, Yba.ntmps16
  go_wp2
  go_ret
  exact ⟨rfl, rfl⟩
theorem or_lt (a b : Int) (ha : 0 ≤ a) (ha2 : a < 8589934592) (hb : 0 ≤ b) (hb2 : b < 8589934592) : 0 ≤ bits .or .u64 a b ∧ bits .or .u64 a b < 8589934592 := by
  obtain ⟨a, rfl⟩ := Int.eq_ofNat_of_zero_le ha
  obtain ⟨b, rfl⟩ := Int.eq_ofNat_of_zero_le hb
  have h := Nat.or_lt_two_pow (x := a) (y := b) (n := 33) (by omega) (by omega)
  have e1 : a % 2 ^ IntKind.u64.bits = a := Nat.mod_eq_of_lt (by simp [IntKind.bits]; omega)
  have e2 : b % 2 ^ IntKind.u64.bits = b := Nat.mod_eq_of_lt (by simp [IntKind.bits]; omega)
  simp [bits, e1, e2, IntKind.wrap_u64]
  omega
set_option maxRecDepth 100000 in
theorem len_any (x : Int) (h0 : 0 ≤ x) (h1 : x < 8589934592) (w : World) : Calls Yba.prog 21 #[.int .u64 x] w fun e w' => ∃ k, e = .returned (.int .i64 k) ∧ (0 ≤ k ∧ k ≤ 63) ∧ w' = w := by
  go_enter Yba.func21, Yba.ntmps21
  go_wp2_with (go_at_call 32; refine (len64 x h0 h1 _).mono ?_; rintro _ _ ⟨k, rfl, hk, rfl⟩)
  go_ret
  exact ⟨k, rfl, hk, rfl⟩
set_option maxRecDepth 100000 in
set_option maxHeartbeats 1000000 in
theorem bitLen_1 (B c : Nat) (n : Int) (hn : 1 ≤ n) (hn2 : n ≤ 8589934591) (w : World) (hB : w.cell? ⟨B, 0, none⟩ = some (.int .u64 n)) : Calls Yba.prog 16 #[.slice (some ⟨B, 0, none⟩) 1 c] w fun e w' => ∃ k, e = .returned (.int .i64 k) ∧ (0 ≤ k ∧ k ≤ 63) ∧ w' = w := by
  obtain ⟨t1, e1⟩ : ∃ t, bits .or .u64 n (n / 2) = t := ⟨_, rfl⟩
  have b1 := or_lt n (n / 2) (by omega) (by omega) (by omega) (by omega)
  rw [e1] at b1
  obtain ⟨t2, e2⟩ : ∃ t, bits .or .u64 t1 (t1 / 4) = t := ⟨_, rfl⟩
  have b2 := or_lt t1 (t1 / 4) (by omega) (by omega) (by omega) (by omega)
  rw [e2] at b2
  obtain ⟨t3, e3⟩ : ∃ t, bits .or .u64 t2 (t2 / 16) = t := ⟨_, rfl⟩
  have b3 := or_lt t2 (t2 / 16) (by omega) (by omega) (by omega) (by omega)
  rw [e3] at b3
  obtain ⟨t4, e4⟩ : ∃ t, bits .or .u64 t3 (t3 / 256) = t := ⟨_, rfl⟩
  have b4 := or_lt t3 (t3 / 256) (by omega) (by omega) (by omega) (by omega)
  rw [e4] at b4
  obtain ⟨t5, e5⟩ : ∃ t, bits .or .u64 t4 (t4 / 65536) = t := ⟨_, rfl⟩
  have b5 := or_lt t4 (t4 / 65536) (by omega) (by omega) (by omega) (by omega)
  rw [e5] at b5
  obtain ⟨t6, e6⟩ : ∃ t, bits .or .u64 t5 (t5 / 65536 / 65536) = t := ⟨_, rfl⟩
  have b6 := or_lt t5 (t5 / 65536 / 65536) (by omega) (by omega) (by omega) (by omega)
  rw [e6] at b6
  obtain ⟨l1, u1⟩ := b1
  obtain ⟨l2, u2⟩ := b2
  obtain ⟨l3, u3⟩ := b3
  obtain ⟨l4, u4⟩ := b4
  obtain ⟨l5, u5⟩ := b5
  obtain ⟨l6, u6⟩ := b6
  go_enter Yba.func16, Yba.ntmps16
  go_wp2_with (go_at_call 21; refine (len_any t6 l6 u6 _).mono ?_; rintro _ _ ⟨k, rfl, hk, rfl⟩)
  go_ret
  refine ⟨_, rfl, ?_, rfl⟩
  omega
end Go.Proofs.Ybulkdqwy.M
