/-
  LawS5887BWhole: the naturals' operations in the form that Add and Sub ask.
-/
import Derived.Test.YbulkdqwyFrames
namespace Go.Proofs.Ybulkdqwy.M
open Go.RowKit
set_option linter.unusedVariables false
set_option linter.unusedSimpArgs false
theorem hop_add00 (B P S : Nat) (x y : Value) (w : World) (h0 : At w P 0 x) (h1 : At w P 1 y) :
    ∀ v, (∃ q, v = w.drewN q) → Calls Yba.prog 18 #[.slice none 0 0, .slice none 0 0, .slice none 0 0] v fun e w' => ∃ d cd, e = .returned (.slice d 0 cd) ∧ R0 B w S d cd w' ∧ At w' P 0 x ∧ At w' P 1 y := by
  rintro v ⟨q, rfl⟩
  refine (add_00 _).mono ?_
  rintro _ _ ⟨rfl, rfl⟩
  exact ⟨_, _, rfl, ⟨below_same B w q, kept_same w q S⟩, h0.drewN q, h1.drewN q⟩
theorem hop_sub00 (B P S : Nat) (x y : Value) (w : World) (h0 : At w P 0 x) (h1 : At w P 1 y) :
    ∀ v, (∃ q, v = w.drewN q) → Calls Yba.prog 20 #[.slice none 0 0, .slice none 0 0, .slice none 0 0] v fun e w' => ∃ d cd, e = .returned (.slice d 0 cd) ∧ R0 B w S d cd w' ∧ At w' P 0 x ∧ At w' P 1 y := by
  rintro v ⟨q, rfl⟩
  refine (sub_00 _).mono ?_
  rintro _ _ ⟨rfl, rfl⟩
  exact ⟨_, _, rfl, ⟨below_same B w q, kept_same w q S⟩, h0.drewN q, h1.drewN q⟩
theorem hop_add01 (B P S : Nat) (X : Nat) (u : Int) (x y : Value) (w : World) (h0 : At w P 0 x) (h1 : At w P 1 y) (hX : At w X 0 (.int .u64 u)) (hB : B ≤ w.heap.size) :
    ∀ v, (∃ q, v = w.drewN q) → Calls Yba.prog 18 #[.slice none 0 0, .slice none 0 0, .slice (some ⟨X, 0, none⟩) 1 1] v fun e w' => ∃ d cd, e = .returned (.slice d 1 cd) ∧ R1 B w S P u d cd w' ∧ At w' P 0 x ∧ At w' P 1 y := by
  rintro v ⟨q, rfl⟩
  refine (add_01 X u _ (hX.drewN q).1).mono ?_
  rintro _ _ ⟨rfl, rfl⟩
  have hb := below_new w q #[.int .u64 u] 31
  have lP := h0.lt
  exact ⟨_, _, rfl, ⟨hb.mono hB, kept_below hb S, w.heap.size, rfl, by omega, (At.new rfl).1⟩, h0.later hb lP, h1.later hb lP⟩
theorem hop_subnew (B P S : Nat) (X : Nat) (u : Int) (x y : Value) (w : World) (h0 : At w P 0 x) (h1 : At w P 1 y) (hX : At w X 0 (.int .u64 u)) (hB : B ≤ w.heap.size) :
    ∀ v, (∃ q, v = w.drewN q) → Calls Yba.prog 20 #[.slice none 0 0, .slice (some ⟨X, 0, none⟩) 1 1, .slice none 0 0] v fun e w' => ∃ d cd, e = .returned (.slice d 1 cd) ∧ R1 B w S P u d cd w' ∧ At w' P 0 x ∧ At w' P 1 y := by
  rintro v ⟨q, rfl⟩
  refine (sub_new X u _ (hX.drewN q).1).mono ?_
  rintro _ _ ⟨rfl, rfl⟩
  have hb := below_new w q #[.int .u64 u] 31
  have lP := h0.lt
  exact ⟨_, _, rfl, ⟨hb.mono hB, kept_below hb S, w.heap.size, rfl, by omega, (At.new rfl).1⟩, h0.later hb lP, h1.later hb lP⟩
theorem hop_add10 (B P S : Nat) (u : Int) (x y : Value) (w : World) (h0 : At w P 0 x) (h1 : At w P 1 y) (hS : At w S 0 (.int .u64 u)) (hB : B ≤ S) (hne : P ≠ S) :
    ∀ v, (∃ q, v = w.drewN q) → Calls Yba.prog 18 #[.slice (some ⟨S, 0, none⟩) 1 1, .slice (some ⟨S, 0, none⟩) 1 1, .slice none 0 0] v fun e w' => ∃ d cd, e = .returned (.slice d 1 cd) ∧ R1 B w S P u d cd w' ∧ At w' P 0 x ∧ At w' P 1 y := by
  rintro v ⟨q, rfl⟩
  refine (add_10 S u _ (hS.drewN q).1 (hS.drewN q).2).mono ?_
  rintro _ _ ⟨rfl, rfl⟩
  exact ⟨_, _, rfl, ⟨below_set B w q S _ hB, kept_set w q S _, S, rfl, fun e => hne e.symm, ((hS.drewN q).set_same _).1⟩, kept_set w q S _ _ _ _ h0 hne, kept_set w q S _ _ _ _ h1 hne⟩
theorem hop_sub10 (B P S : Nat) (u : Int) (x y : Value) (w : World) (h0 : At w P 0 x) (h1 : At w P 1 y) (hS : At w S 0 (.int .u64 u)) (hB : B ≤ S) (hne : P ≠ S) :
    ∀ v, (∃ q, v = w.drewN q) → Calls Yba.prog 20 #[.slice (some ⟨S, 0, none⟩) 1 1, .slice (some ⟨S, 0, none⟩) 1 1, .slice none 0 0] v fun e w' => ∃ d cd, e = .returned (.slice d 1 cd) ∧ R1 B w S P u d cd w' ∧ At w' P 0 x ∧ At w' P 1 y := by
  rintro v ⟨q, rfl⟩
  refine (sub_10 S u _ (hS.drewN q).1 (hS.drewN q).2).mono ?_
  rintro _ _ ⟨rfl, rfl⟩
  exact ⟨_, _, rfl, ⟨below_set B w q S _ hB, kept_set w q S _, S, rfl, fun e => hne e.symm, ((hS.drewN q).set_same _).1⟩, kept_set w q S _ _ _ _ h0 hne, kept_set w q S _ _ _ _ h1 hne⟩
theorem hop_add11 (B P S : Nat) (Y : Nat) (s u : Int) (x y : Value) (w : World) (h0 : At w P 0 x) (h1 : At w P 1 y) (hS : At w S 0 (.int .u64 s)) (hY : At w Y 0 (.int .u64 u)) (hs : 1 ≤ s) (hu : 1 ≤ u) (hb : s + u < 18446744073709551616) (hB : B ≤ w.heap.size) :
    ∀ v, (∃ q, v = w.drewN q) → Calls Yba.prog 18 #[.slice (some ⟨S, 0, none⟩) 1 1, .slice (some ⟨S, 0, none⟩) 1 1, .slice (some ⟨Y, 0, none⟩) 1 1] v fun e w' => ∃ d cd, e = .returned (.slice d 1 cd) ∧ R1 B w S P (s + u) d cd w' ∧ At w' P 0 x ∧ At w' P 1 y := by
  rintro v ⟨q, rfl⟩
  refine (add_11 S Y s u hs hu hb _ (hS.drewN q).1 (hY.drewN q).1).mono ?_
  rintro _ w1 ⟨rfl, hc, hk⟩
  have hb : Below w.heap.size w w1 := (below_same _ w q).trans hk
  have lP := h0.lt
  exact ⟨_, _, rfl, ⟨hb.mono hB, kept_below hb S, w.heap.size, rfl, by omega, hc⟩, h0.later hb lP, h1.later hb lP⟩
theorem hop_sub11 (B P S : Nat) (X Y : Nat) (s t u : Int) (x y : Value) (w : World) (h0 : At w P 0 x) (h1 : At w P 1 y) (hS : At w S 0 (.int .u64 s)) (hX : At w X 0 (.int .u64 t)) (hY : At w Y 0 (.int .u64 u)) (ht : 1 ≤ t) (hu : 1 ≤ u) (hb : t < 18446744073709551616) (hlt : u < t) (hB : B ≤ S) (hne : P ≠ S) :
    ∀ v, (∃ q, v = w.drewN q) → Calls Yba.prog 20 #[.slice (some ⟨S, 0, none⟩) 1 1, .slice (some ⟨X, 0, none⟩) 1 1, .slice (some ⟨Y, 0, none⟩) 1 1] v fun e w' => ∃ d cd, e = .returned (.slice d 1 cd) ∧ R1 B w S P (t - u) d cd w' ∧ At w' P 0 x ∧ At w' P 1 y := by
  rintro v ⟨q, rfl⟩
  refine (sub_11 S X Y s t u ht hu hb hlt _ (hS.drewN q).1 (hS.drewN q).2 (hX.drewN q).1 (hY.drewN q).1).mono ?_
  rintro _ _ ⟨rfl, k, rfl⟩
  rw [drew2]
  exact ⟨_, _, rfl, ⟨below_set B w _ S _ hB, kept_set w _ S _, S, rfl, fun e => hne e.symm, ((hS.drewN _).set_same _).1⟩, kept_set w _ S _ _ _ _ h0 hne, kept_set w _ S _ _ _ _ h1 hne⟩
theorem hop_sub11_eq (B P S : Nat) (X Y : Nat) (s t u : Int) (x y : Value) (w : World) (h0 : At w P 0 x) (h1 : At w P 1 y) (hS : At w S 0 (.int .u64 s)) (hX : At w X 0 (.int .u64 t)) (hY : At w Y 0 (.int .u64 u)) (ht : 1 ≤ t) (hu : 1 ≤ u) (hb : t < 18446744073709551616) (hlt : t - u = 0) (hB : B ≤ S) (hne : P ≠ S) :
    ∀ v, (∃ q, v = w.drewN q) → Calls Yba.prog 20 #[.slice (some ⟨S, 0, none⟩) 1 1, .slice (some ⟨X, 0, none⟩) 1 1, .slice (some ⟨Y, 0, none⟩) 1 1] v fun e w' => ∃ d cd, e = .returned (.slice d 0 cd) ∧ R0 B w S d cd w' ∧ At w' P 0 x ∧ At w' P 1 y := by
  rintro v ⟨q, rfl⟩
  refine (sub_11_eq S X Y s t u ht hu hb hlt _ (hS.drewN q).1 (hS.drewN q).2 (hX.drewN q).1 (hY.drewN q).1).mono ?_
  rintro _ _ ⟨rfl, k, rfl⟩
  rw [drew2]
  exact ⟨_, _, rfl, ⟨below_set B w _ S _ hB, kept_set w _ S _⟩, kept_set w _ S _ _ _ _ h0 hne, kept_set w _ S _ _ _ _ h1 hne⟩
theorem hcmp_00 (w : World) : ∀ v, (∃ q, v = w.drewN q) → Calls Yba.prog 19 #[.slice none 0 0, .slice none 0 0] v fun e w' => e = .returned (.int .i64 0) ∧ ∃ q, w' = v.drewN q :=
  fun v _ => (cmp_00 v).mono fun _ _ ⟨h, h'⟩ => ⟨h, 0, h'⟩
theorem hcmp_01 (Y : Nat) (w : World) : ∀ v, (∃ q, v = w.drewN q) → Calls Yba.prog 19 #[.slice none 0 0, .slice (some ⟨Y, 0, none⟩) 1 1] v fun e w' => e = .returned (.int .i64 (-1)) ∧ ∃ q, w' = v.drewN q :=
  fun v _ => (cmp_01 Y v).mono fun _ _ ⟨h, h'⟩ => ⟨h, 0, h'⟩
theorem hcmp_10 (X : Nat) (w : World) : ∀ v, (∃ q, v = w.drewN q) → Calls Yba.prog 19 #[.slice (some ⟨X, 0, none⟩) 1 1, .slice none 0 0] v fun e w' => e = .returned (.int .i64 1) ∧ ∃ q, w' = v.drewN q :=
  fun v _ => (cmp_10 X v).mono fun _ _ ⟨h, h'⟩ => ⟨h, 0, h'⟩
theorem hcmp_11 (X Y : Nat) (x y c : Int) (hc : cmpN x y = c) (w : World) (hX : At w X 0 (.int .u64 x)) (hY : At w Y 0 (.int .u64 y)) : ∀ v, (∃ q, v = w.drewN q) → Calls Yba.prog 19 #[.slice (some ⟨X, 0, none⟩) 1 1, .slice (some ⟨Y, 0, none⟩) 1 1] v fun e w' => e = .returned (.int .i64 c) ∧ ∃ q, w' = v.drewN q := by
  rintro v ⟨q, rfl⟩
  exact cmp_11 X Y x y c hc _ (hX.drewN q).1 (hY.drewN q).1
end Go.Proofs.Ybulkdqwy.M
