/-
  LawS5887BWhole: big.Int's Sub at small numbers.
-/
import Derived.Test.YbulkdqwyBigSub
import Derived.Test.YbulkdqwyHops
namespace Go.Proofs.Ybulkdqwy.M
open Go.RowKit
set_option linter.unusedVariables false
set_option linter.unusedSimpArgs false
theorem op15 (B P Q S Y : Nat) (n m : Bool) (a b : Int) (w : World) (hP : Num w P S n a) (hQ : Num w Q Y m b) (hB : B ≤ P) (hBS : B ≤ S) (hBw : B ≤ w.heap.size) :
    Calls Yba.prog 15 #[pt P, pt P, pt Q] w fun e w' => e = .returned (pt P) ∧ ∃ k r, Left B w w' P S k r ∧ (if k then -r else r) = (if n then -a else a) - (if m then -b else b) := by
  obtain ⟨h0, ⟨rfl, rfl, h1⟩ | ⟨ha, ha2, hne, h1, hS⟩⟩ := hP
  · obtain ⟨g0, ⟨rfl, rfl, g1⟩ | ⟨hb, hb2, hne', g1, hY⟩⟩ := hQ
    · refine (big15_ge_0 P Q false false _ _ _ _ _ _ rfl w h0 h1 g0 g1 (R0 B w S) _ rfl (hcmp_00 w) (hop_sub00 B P S _ _ w h0 h1)).mono ?_
      rintro _ _ ⟨rfl, d, cd, w1, hr, k0, k1, rfl⟩
      exact ⟨rfl, _, _, left0 hB hr k0 k1, by simp; try omega⟩
    · cases m
      · refine (big15_lt_1 P Q false false _ _ _ _ _ _ rfl w h0 h1 g0 g1 (R1 B w S P b) _ rfl (hcmp_01 Y w) (hop_subnew B P S Y b _ _ w h0 h1 hY hBw)).mono ?_
        rintro _ _ ⟨rfl, d, cd, w1, hr, k0, k1, rfl⟩
        exact ⟨rfl, _, _, left1 (by omega) hB hr k0 k1, by simp; try omega⟩
      · refine (big15_same_1 P Q false true _ _ _ _ _ _ rfl w h0 h1 g0 g1 (R1 B w S P b) (hop_add01 B P S Y b _ _ w h0 h1 hY hBw)).mono ?_
        rintro _ _ ⟨rfl, d, cd, w1, hr, k0, k1, rfl⟩
        exact ⟨rfl, _, _, left1 (by omega) hB hr k0 k1, by simp; try omega⟩
  · obtain ⟨g0, ⟨rfl, rfl, g1⟩ | ⟨hb, hb2, hne', g1, hY⟩⟩ := hQ
    · cases n
      · refine (big15_ge_1 P Q false false _ _ _ _ _ _ rfl w h0 h1 g0 g1 (R1 B w S P a) _ rfl (hcmp_10 S w) (hop_sub10 B P S a _ _ w h0 h1 hS hBS hne)).mono ?_
        rintro _ _ ⟨rfl, d, cd, w1, hr, k0, k1, rfl⟩
        exact ⟨rfl, _, _, left1 (by omega) hB hr k0 k1, by simp; try omega⟩
      · refine (big15_same_1 P Q true false _ _ _ _ _ _ rfl w h0 h1 g0 g1 (R1 B w S P a) (hop_add10 B P S a _ _ w h0 h1 hS hBS hne)).mono ?_
        rintro _ _ ⟨rfl, d, cd, w1, hr, k0, k1, rfl⟩
        exact ⟨rfl, _, _, left1 (by omega) hB hr k0 k1, by simp; try omega⟩
    · cases n <;> cases m
      · rcases Int.lt_trichotomy b a with hlt | heq | hgt
        · refine (big15_ge_1 P Q false false _ _ _ _ _ _ rfl w h0 h1 g0 g1 (R1 B w S P (a - b)) _ rfl (hcmp_11 S Y a b 1 (by unfold cmpN; rw [if_neg (by omega), if_pos hlt]) w hS hY) (hop_sub11 B P S S Y a a b _ _ w h0 h1 hS hS hY ha hb (by omega) hlt hBS hne)).mono ?_
          rintro _ _ ⟨rfl, d, cd, w1, hr, k0, k1, rfl⟩
          exact ⟨rfl, _, _, left1 (by omega) hB hr k0 k1, by simp; try omega⟩
        · refine (big15_ge_0 P Q false false _ _ _ _ _ _ rfl w h0 h1 g0 g1 (R0 B w S) _ rfl (hcmp_11 S Y a b 0 (by unfold cmpN; rw [if_neg (by omega), if_neg (by omega)]) w hS hY) (hop_sub11_eq B P S S Y a a b _ _ w h0 h1 hS hS hY ha hb (by omega) (by omega) hBS hne)).mono ?_
          rintro _ _ ⟨rfl, d, cd, w1, hr, k0, k1, rfl⟩
          exact ⟨rfl, _, _, left0 hB hr k0 k1, by simp; try omega⟩
        · refine (big15_lt_1 P Q false false _ _ _ _ _ _ rfl w h0 h1 g0 g1 (R1 B w S P (b - a)) _ rfl (hcmp_11 S Y a b (-1) (by unfold cmpN; rw [if_pos hgt]) w hS hY) (hop_sub11 B P S Y S a b a _ _ w h0 h1 hS hY hS hb ha (by omega) hgt hBS hne)).mono ?_
          rintro _ _ ⟨rfl, d, cd, w1, hr, k0, k1, rfl⟩
          exact ⟨rfl, _, _, left1 (by omega) hB hr k0 k1, by simp; try omega⟩
      · refine (big15_same_1 P Q false true _ _ _ _ _ _ rfl w h0 h1 g0 g1 (R1 B w S P (a + b)) (hop_add11 B P S Y a b _ _ w h0 h1 hS hY ha hb (by omega) hBw)).mono ?_
        rintro _ _ ⟨rfl, d, cd, w1, hr, k0, k1, rfl⟩
        exact ⟨rfl, _, _, left1 (by omega) hB hr k0 k1, by simp; try omega⟩
      · refine (big15_same_1 P Q true false _ _ _ _ _ _ rfl w h0 h1 g0 g1 (R1 B w S P (a + b)) (hop_add11 B P S Y a b _ _ w h0 h1 hS hY ha hb (by omega) hBw)).mono ?_
        rintro _ _ ⟨rfl, d, cd, w1, hr, k0, k1, rfl⟩
        exact ⟨rfl, _, _, left1 (by omega) hB hr k0 k1, by simp; try omega⟩
      · rcases Int.lt_trichotomy b a with hlt | heq | hgt
        · refine (big15_ge_1 P Q true true _ _ _ _ _ _ rfl w h0 h1 g0 g1 (R1 B w S P (a - b)) _ rfl (hcmp_11 S Y a b 1 (by unfold cmpN; rw [if_neg (by omega), if_pos hlt]) w hS hY) (hop_sub11 B P S S Y a a b _ _ w h0 h1 hS hS hY ha hb (by omega) hlt hBS hne)).mono ?_
          rintro _ _ ⟨rfl, d, cd, w1, hr, k0, k1, rfl⟩
          exact ⟨rfl, _, _, left1 (by omega) hB hr k0 k1, by simp; try omega⟩
        · refine (big15_ge_0 P Q true true _ _ _ _ _ _ rfl w h0 h1 g0 g1 (R0 B w S) _ rfl (hcmp_11 S Y a b 0 (by unfold cmpN; rw [if_neg (by omega), if_neg (by omega)]) w hS hY) (hop_sub11_eq B P S S Y a a b _ _ w h0 h1 hS hS hY ha hb (by omega) (by omega) hBS hne)).mono ?_
          rintro _ _ ⟨rfl, d, cd, w1, hr, k0, k1, rfl⟩
          exact ⟨rfl, _, _, left0 hB hr k0 k1, by simp; try omega⟩
        · refine (big15_lt_1 P Q true true _ _ _ _ _ _ rfl w h0 h1 g0 g1 (R1 B w S P (b - a)) _ rfl (hcmp_11 S Y a b (-1) (by unfold cmpN; rw [if_pos hgt]) w hS hY) (hop_sub11 B P S Y S a b a _ _ w h0 h1 hS hY hS hb ha (by omega) hgt hBS hne)).mono ?_
          rintro _ _ ⟨rfl, d, cd, w1, hr, k0, k1, rfl⟩
          exact ⟨rfl, _, _, left1 (by omega) hB hr k0 k1, by simp; try omega⟩
end Go.Proofs.Ybulkdqwy.M
