/-
  LawS5887BWhole: big.Int's Add over contracts of the naturals' operations.
-/
import Derived.Test.YbulkdqwyBase
import Derived.Deep.RegionWith
namespace Go.Proofs.Ybulkdqwy.M
open Go.RowKit
set_option linter.unusedVariables false
set_option linter.unusedSimpArgs false
set_option maxRecDepth 100000 in
set_option maxHeartbeats 1000000 in
theorem big14_same_0 (P Q : Nat) (n m : Bool) (a b : Option Addr) (la ca lb cb : Nat) (hnm : (n == m) = true) (w : World)
    (h0 : At w P 0 (.bool n)) (h1 : At w P 1 (.slice a la ca)) (g0 : At w Q 0 (.bool m)) (g1 : At w Q 1 (.slice b lb cb)) (R : Option Addr → Nat → World → Prop)
    (hop : ∀ v, (∃ q, v = w.drewN q) → Calls Yba.prog 18 #[.slice a la ca, .slice a la ca, .slice b lb cb] v fun e w' => ∃ d cd, e = .returned (.slice d 0 cd) ∧ R d cd w' ∧ At w' P 0 (.bool n) ∧ At w' P 1 (.slice a la ca)) :
    Calls Yba.prog 14 #[pt P, pt P, pt Q] w fun e w' => e = .returned (pt P) ∧ ∃ d cd w1, R d cd w1 ∧ At w1 P 0 (.bool n) ∧ At w1 P 1 (.slice a la ca) ∧ w' = (w1.setCell ⟨P, 1, none⟩ (.slice d 0 cd)).setCell ⟨P, 0, none⟩ (.bool false) := by
  obtain ⟨h0, h0f⟩ := h0
  obtain ⟨h1, h1f⟩ := h1
  obtain ⟨g0, g0f⟩ := g0
  obtain ⟨g1, g1f⟩ := g1
  go_enter Yba.func14, Yba.ntmps14
  go_wp2
  go_quiet (fail)
  go_wp2
  go_region_with (first | (go_at_call 18; refine (hop _ ⟨_, drew1 _ _⟩).mono ?_; rintro _ w1 ⟨d, cd, rfl, hr, ⟨k0, k0f⟩, ⟨k1, k1f⟩⟩))
  all_goals (
    go_wp2
    go_ret
    exact ⟨rfl, d, cd, w1, hr, ⟨k0, k0f⟩, ⟨k1, k1f⟩, rfl⟩)
set_option maxRecDepth 100000 in
set_option maxHeartbeats 1000000 in
theorem big14_same_1 (P Q : Nat) (n m : Bool) (a b : Option Addr) (la ca lb cb : Nat) (hnm : (n == m) = true) (w : World)
    (h0 : At w P 0 (.bool n)) (h1 : At w P 1 (.slice a la ca)) (g0 : At w Q 0 (.bool m)) (g1 : At w Q 1 (.slice b lb cb)) (R : Option Addr → Nat → World → Prop)
    (hop : ∀ v, (∃ q, v = w.drewN q) → Calls Yba.prog 18 #[.slice a la ca, .slice a la ca, .slice b lb cb] v fun e w' => ∃ d cd, e = .returned (.slice d 1 cd) ∧ R d cd w' ∧ At w' P 0 (.bool n) ∧ At w' P 1 (.slice a la ca)) :
    Calls Yba.prog 14 #[pt P, pt P, pt Q] w fun e w' => e = .returned (pt P) ∧ ∃ d cd w1, R d cd w1 ∧ At w1 P 0 (.bool n) ∧ At w1 P 1 (.slice a la ca) ∧ w' = (w1.setCell ⟨P, 1, none⟩ (.slice d 1 cd)).setCell ⟨P, 0, none⟩ (.bool n) := by
  obtain ⟨h0, h0f⟩ := h0
  obtain ⟨h1, h1f⟩ := h1
  obtain ⟨g0, g0f⟩ := g0
  obtain ⟨g1, g1f⟩ := g1
  go_enter Yba.func14, Yba.ntmps14
  go_wp2
  go_quiet (fail)
  go_wp2
  go_region_with (first | (go_at_call 18; refine (hop _ ⟨_, drew1 _ _⟩).mono ?_; rintro _ w1 ⟨d, cd, rfl, hr, ⟨k0, k0f⟩, ⟨k1, k1f⟩⟩))
  all_goals (
    go_wp2
    go_ret
    exact ⟨rfl, d, cd, w1, hr, ⟨k0, k0f⟩, ⟨k1, k1f⟩, rfl⟩)
set_option maxRecDepth 100000 in
set_option maxHeartbeats 1000000 in
theorem big14_ge_0 (P Q : Nat) (n m : Bool) (a b : Option Addr) (la ca lb cb : Nat) (hnm : (n == m) = false) (w : World)
    (h0 : At w P 0 (.bool n)) (h1 : At w P 1 (.slice a la ca)) (g0 : At w Q 0 (.bool m)) (g1 : At w Q 1 (.slice b lb cb)) (R : Option Addr → Nat → World → Prop)
    (c : Int) (hc : decide (0 ≤ c) = true)
    (hcmp : ∀ v, (∃ q, v = w.drewN q) → Calls Yba.prog 19 #[.slice a la ca, .slice b lb cb] v fun e w' => e = .returned (.int .i64 c) ∧ ∃ q, w' = v.drewN q)
    (hop : ∀ v, (∃ q, v = w.drewN q) → Calls Yba.prog 20 #[.slice a la ca, .slice a la ca, .slice b lb cb] v fun e w' => ∃ d cd, e = .returned (.slice d 0 cd) ∧ R d cd w' ∧ At w' P 0 (.bool n) ∧ At w' P 1 (.slice a la ca)) :
    Calls Yba.prog 14 #[pt P, pt P, pt Q] w fun e w' => e = .returned (pt P) ∧ ∃ d cd w1, R d cd w1 ∧ At w1 P 0 (.bool n) ∧ At w1 P 1 (.slice a la ca) ∧ w' = (w1.setCell ⟨P, 1, none⟩ (.slice d 0 cd)).setCell ⟨P, 0, none⟩ (.bool false) := by
  obtain ⟨h0, h0f⟩ := h0
  obtain ⟨h1, h1f⟩ := h1
  obtain ⟨g0, g0f⟩ := g0
  obtain ⟨g1, g1f⟩ := g1
  go_enter Yba.func14, Yba.ntmps14
  go_wp2
  go_quiet (fail)
  go_wp2
  go_quiet (first | (go_at_call 19; exact quietN (hcmp _ ⟨_, rfl⟩)))
  go_wp2
  go_region_with (first | (go_at_call 20; refine (hop _ ⟨_, drew1 _ _⟩).mono ?_; rintro _ w1 ⟨d, cd, rfl, hr, ⟨k0, k0f⟩, ⟨k1, k1f⟩⟩))
  all_goals (
    go_wp2
    go_ret
    exact ⟨rfl, d, cd, w1, hr, ⟨k0, k0f⟩, ⟨k1, k1f⟩, rfl⟩)
set_option maxRecDepth 100000 in
set_option maxHeartbeats 1000000 in
theorem big14_ge_1 (P Q : Nat) (n m : Bool) (a b : Option Addr) (la ca lb cb : Nat) (hnm : (n == m) = false) (w : World)
    (h0 : At w P 0 (.bool n)) (h1 : At w P 1 (.slice a la ca)) (g0 : At w Q 0 (.bool m)) (g1 : At w Q 1 (.slice b lb cb)) (R : Option Addr → Nat → World → Prop)
    (c : Int) (hc : decide (0 ≤ c) = true)
    (hcmp : ∀ v, (∃ q, v = w.drewN q) → Calls Yba.prog 19 #[.slice a la ca, .slice b lb cb] v fun e w' => e = .returned (.int .i64 c) ∧ ∃ q, w' = v.drewN q)
    (hop : ∀ v, (∃ q, v = w.drewN q) → Calls Yba.prog 20 #[.slice a la ca, .slice a la ca, .slice b lb cb] v fun e w' => ∃ d cd, e = .returned (.slice d 1 cd) ∧ R d cd w' ∧ At w' P 0 (.bool n) ∧ At w' P 1 (.slice a la ca)) :
    Calls Yba.prog 14 #[pt P, pt P, pt Q] w fun e w' => e = .returned (pt P) ∧ ∃ d cd w1, R d cd w1 ∧ At w1 P 0 (.bool n) ∧ At w1 P 1 (.slice a la ca) ∧ w' = (w1.setCell ⟨P, 1, none⟩ (.slice d 1 cd)).setCell ⟨P, 0, none⟩ (.bool n) := by
  obtain ⟨h0, h0f⟩ := h0
  obtain ⟨h1, h1f⟩ := h1
  obtain ⟨g0, g0f⟩ := g0
  obtain ⟨g1, g1f⟩ := g1
  go_enter Yba.func14, Yba.ntmps14
  go_wp2
  go_quiet (fail)
  go_wp2
  go_quiet (first | (go_at_call 19; exact quietN (hcmp _ ⟨_, rfl⟩)))
  go_wp2
  go_region_with (first | (go_at_call 20; refine (hop _ ⟨_, drew1 _ _⟩).mono ?_; rintro _ w1 ⟨d, cd, rfl, hr, ⟨k0, k0f⟩, ⟨k1, k1f⟩⟩))
  all_goals (
    go_wp2
    go_ret
    exact ⟨rfl, d, cd, w1, hr, ⟨k0, k0f⟩, ⟨k1, k1f⟩, rfl⟩)
set_option maxRecDepth 100000 in
set_option maxHeartbeats 1000000 in
theorem big14_lt_1 (P Q : Nat) (n m : Bool) (a b : Option Addr) (la ca lb cb : Nat) (hnm : (n == m) = false) (w : World)
    (h0 : At w P 0 (.bool n)) (h1 : At w P 1 (.slice a la ca)) (g0 : At w Q 0 (.bool m)) (g1 : At w Q 1 (.slice b lb cb)) (R : Option Addr → Nat → World → Prop)
    (c : Int) (hc : decide (0 ≤ c) = false)
    (hcmp : ∀ v, (∃ q, v = w.drewN q) → Calls Yba.prog 19 #[.slice a la ca, .slice b lb cb] v fun e w' => e = .returned (.int .i64 c) ∧ ∃ q, w' = v.drewN q)
    (hop : ∀ v, (∃ q, v = w.drewN q) → Calls Yba.prog 20 #[.slice a la ca, .slice b lb cb, .slice a la ca] v fun e w' => ∃ d cd, e = .returned (.slice d 1 cd) ∧ R d cd w' ∧ At w' P 0 (.bool n) ∧ At w' P 1 (.slice a la ca)) :
    Calls Yba.prog 14 #[pt P, pt P, pt Q] w fun e w' => e = .returned (pt P) ∧ ∃ d cd w1, R d cd w1 ∧ At w1 P 0 (.bool n) ∧ At w1 P 1 (.slice a la ca) ∧ w' = (w1.setCell ⟨P, 1, none⟩ (.slice d 1 cd)).setCell ⟨P, 0, none⟩ (.bool (!n)) := by
  obtain ⟨h0, h0f⟩ := h0
  obtain ⟨h1, h1f⟩ := h1
  obtain ⟨g0, g0f⟩ := g0
  obtain ⟨g1, g1f⟩ := g1
  go_enter Yba.func14, Yba.ntmps14
  go_wp2
  go_quiet (fail)
  go_wp2
  go_quiet (first | (go_at_call 19; exact quietN (hcmp _ ⟨_, rfl⟩)))
  go_wp2
  go_region_with (first | (go_at_call 20; refine (hop _ ⟨_, drew1 _ _⟩).mono ?_; rintro _ w1 ⟨d, cd, rfl, hr, ⟨k0, k0f⟩, ⟨k1, k1f⟩⟩))
  all_goals (
    go_wp2
    go_ret
    exact ⟨rfl, d, cd, w1, hr, ⟨k0, k0f⟩, ⟨k1, k1f⟩, rfl⟩)
end Go.Proofs.Ybulkdqwy.M
