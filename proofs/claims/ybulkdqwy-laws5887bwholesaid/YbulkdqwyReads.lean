/-
  LawS5887BWhole: NewInt, BitLen, Int64 at small numbers.
-/
import Derived.Test.YbulkdqwyFrames
namespace Go.Proofs.Ybulkdqwy.M
open Go.RowKit
set_option linter.unusedVariables false
set_option linter.unusedSimpArgs false
theorem alloc_size (w : World) (o : Obj) : (w.alloc o).heap.size = w.heap.size + 1 := Array.size_push _
theorem newInt_any (v : Int) (h1 : -2147483648 ≤ v) (h2 : v ≤ 2147483647) (w : World) :
    Calls Yba.prog 4 #[.int .i64 v] w fun e w' => ∃ P S n a, e = .returned (pt P) ∧ (if n then -a else a) = v ∧ (0 ≤ a ∧ a ≤ 2147483648) ∧ Num w' P S n a ∧ Below w.heap.size w w' ∧ (w.heap.size ≤ P ∧ w.heap.size ≤ S ∧ P < w'.heap.size ∧ S < w'.heap.size) := by
  rcases Int.lt_trichotomy v 0 with hlt | rfl | hgt
  · refine (newInt_neg v (-v) rfl (by omega) (by omega) w).mono ?_
    rintro _ _ ⟨rfl, rfl⟩
    have hb := ((Below.refl w.heap.size w).alloc (Nat.le_refl _) (.cells #[.int .u64 (-v)] 31))
    have hb2 := hb.alloc (o := (.cells #[.bool true, .slice (some ⟨w.heap.size, 0, none⟩) 1 1] 34)) (by rw [alloc_size]; omega)
    have hs : (w.alloc (.cells #[.int .u64 (-v)] 31)).heap.size = w.heap.size + 1 := alloc_size _ _
    have c0 : At ((w.alloc (.cells #[.int .u64 (-v)] 31)).alloc (.cells #[.bool true, .slice (some ⟨w.heap.size, 0, none⟩) 1 1] 34)) (w.alloc (.cells #[.int .u64 (-v)] 31)).heap.size 0 (.bool true) := At.new rfl
    have c1 : At ((w.alloc (.cells #[.int .u64 (-v)] 31)).alloc (.cells #[.bool true, .slice (some ⟨w.heap.size, 0, none⟩) 1 1] 34)) (w.alloc (.cells #[.int .u64 (-v)] 31)).heap.size 1 (.slice (some ⟨w.heap.size, 0, none⟩) 1 1) := At.new rfl
    have c2 : At ((w.alloc (.cells #[.int .u64 (-v)] 31)).alloc (.cells #[.bool true, .slice (some ⟨w.heap.size, 0, none⟩) 1 1] 34)) w.heap.size 0 (.int .u64 (-v)) := At.later (B := (w.alloc (.cells #[.int .u64 (-v)] 31)).heap.size) (At.new rfl) ((Below.refl _ _).alloc (Nat.le_refl _) _) (by omega)
    rw [hs] at c0 c1
    refine ⟨w.heap.size + 1, w.heap.size, true, -v, rfl, by simp, ⟨by omega, by omega⟩, ⟨c0, Or.inr ⟨by omega, by omega, by omega, c1, c2⟩⟩, hb2, by omega, Nat.le_refl _, c0.lt, c2.lt⟩
  · refine (newInt_zero w).mono ?_
    rintro _ _ ⟨rfl, rfl⟩
    have c0 : At (w.alloc (.cells #[.bool false, .slice none 0 0] 34)) w.heap.size 0 (.bool false) := At.new rfl
    have c1 : At (w.alloc (.cells #[.bool false, .slice none 0 0] 34)) w.heap.size 1 (.slice none 0 0) := At.new rfl
    exact ⟨w.heap.size, w.heap.size, false, 0, rfl, by simp, ⟨by omega, by omega⟩, ⟨c0, Or.inl ⟨rfl, rfl, c1⟩⟩, (Below.refl _ _).alloc (Nat.le_refl _) _, Nat.le_refl _, Nat.le_refl _, c0.lt, c0.lt⟩
  · refine (newInt_pos v (by omega) (by omega) w).mono ?_
    rintro _ _ ⟨rfl, rfl⟩
    have hb := ((Below.refl w.heap.size w).alloc (Nat.le_refl _) (.cells #[.int .u64 v] 31))
    have hb2 := hb.alloc (o := (.cells #[.bool false, .slice (some ⟨w.heap.size, 0, none⟩) 1 1] 34)) (by rw [alloc_size]; omega)
    have hs : (w.alloc (.cells #[.int .u64 v] 31)).heap.size = w.heap.size + 1 := alloc_size _ _
    have c0 : At ((w.alloc (.cells #[.int .u64 v] 31)).alloc (.cells #[.bool false, .slice (some ⟨w.heap.size, 0, none⟩) 1 1] 34)) (w.alloc (.cells #[.int .u64 v] 31)).heap.size 0 (.bool false) := At.new rfl
    have c1 : At ((w.alloc (.cells #[.int .u64 v] 31)).alloc (.cells #[.bool false, .slice (some ⟨w.heap.size, 0, none⟩) 1 1] 34)) (w.alloc (.cells #[.int .u64 v] 31)).heap.size 1 (.slice (some ⟨w.heap.size, 0, none⟩) 1 1) := At.new rfl
    have c2 : At ((w.alloc (.cells #[.int .u64 v] 31)).alloc (.cells #[.bool false, .slice (some ⟨w.heap.size, 0, none⟩) 1 1] 34)) w.heap.size 0 (.int .u64 v) := At.later (B := (w.alloc (.cells #[.int .u64 v] 31)).heap.size) (At.new rfl) ((Below.refl _ _).alloc (Nat.le_refl _) _) (by omega)
    rw [hs] at c0 c1
    refine ⟨w.heap.size + 1, w.heap.size, false, v, rfl, by simp, ⟨by omega, by omega⟩, ⟨c0, Or.inr ⟨by omega, by omega, by omega, c1, c2⟩⟩, hb2, by omega, Nat.le_refl _, c0.lt, c2.lt⟩
theorem int64_any (P : Nat) (n : Bool) (r v : Int) (w : World) (hg : Got w P n r) (hr : r ≤ 8589934591) (hv : (if n then -r else r) = v) :
    Calls Yba.prog 7 #[pt P] w fun e w' => e = .returned (.int .i64 v) ∧ w' = w := by
  subst hv
  obtain ⟨h0, ⟨rfl, rfl, d, c, h1⟩ | ⟨h, C, c, h1, hC⟩⟩ := hg
  · exact int64_0 P c false d w h0 h1
  · cases n
    · exact int64_pos P C c r h (by omega) w h0 h1 hC
    · exact int64_neg P C c r h (by omega) w h0 h1 hC
set_option maxRecDepth 100000 in
theorem bitLen_any (P : Nat) (n : Bool) (r : Int) (w : World) (hg : Got w P n r) (hr : r ≤ 8589934591) :
    Calls Yba.prog 6 #[pt P] w fun e w' => ∃ k, e = .returned (.int .i64 k) ∧ decide (63 < k) = false ∧ w' = w := by
  obtain ⟨h0, ⟨rfl, rfl, d, c, h1⟩ | ⟨h, C, c, h1, hC⟩⟩ := hg
  · go_enter Yba.func6, Yba.ntmps6
    go_wp2_with (go_at_call 16; refine (bitLen_0 d c _).mono ?_; rintro _ _ ⟨rfl, rfl⟩)
    go_ret
    exact ⟨_, rfl, rfl, rfl⟩
  · go_enter Yba.func6, Yba.ntmps6
    go_wp2_with (go_at_call 16; refine (bitLen_1 C c r h hr _ hC).mono ?_; rintro _ _ ⟨k, rfl, hk, rfl⟩)
    go_ret
    exact ⟨_, rfl, decide_eq_false (by omega), rfl⟩
end Go.Proofs.Ybulkdqwy.M
