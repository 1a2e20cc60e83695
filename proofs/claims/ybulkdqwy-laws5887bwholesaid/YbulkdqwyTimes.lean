/-
  LawS5887BWhole: addTimes at small numbers.
-/
import Derived.Test.YbulkdqwyOpAdd
import Derived.Test.YbulkdqwyOpSub
import Derived.Test.YbulkdqwyReads
namespace Go.Proofs.Ybulkdqwy.M
open Go.RowKit
set_option linter.unusedVariables false
set_option linter.unusedSimpArgs false
/-- What a sign and a magnitude stand for. -/
def sv (n : Bool) (a : Int) : Int := if n then -a else a
/-- P holds v; of all else but P and S nothing has turned. -/
def Out (B : Nat) (w : World) (P S : Nat) (v : Int) (w' : World) : Prop := ∃ k r, Left B w w' P S k r ∧ sv k r = v
set_option maxRecDepth 100000 in
theorem times_1 (B P Q S Y : Nat) (n m : Bool) (a b : Int) (w : World) (hP : Num w P S n a) (hQ : Num w Q Y m b) (hB : B ≤ P) (hBS : B ≤ S) (hBw : B ≤ w.heap.size) :
    Calls Yba.prog 5 #[pt P, .int .i64 1, pt Q] w fun e w' => e = .returned (.tuple #[]) ∧ Out B w P S (sv n a + sv m b) w' := by
  have ho : Calls Yba.prog 14 #[pt P, pt P, pt Q] w fun e w' => e = .returned (pt P) ∧ Out B w P S (sv n a + sv m b) w' := op14 B P Q S Y n m a b w hP hQ hB hBS hBw
  go_enter Yba.func5, Yba.ntmps5
  go_wp2_with (go_at_call 14; refine ho.mono ?_; rintro _ w1 ⟨rfl, hl⟩)
  go_end0
  exact ⟨rfl, hl⟩
set_option maxRecDepth 100000 in
theorem times_neg (B P Q S Y : Nat) (n m : Bool) (a b : Int) (w : World) (hP : Num w P S n a) (hQ : Num w Q Y m b) (hB : B ≤ P) (hBS : B ≤ S) (hBw : B ≤ w.heap.size) :
    Calls Yba.prog 5 #[pt P, .int .i64 (-1), pt Q] w fun e w' => e = .returned (.tuple #[]) ∧ Out B w P S (sv n a - sv m b) w' := by
  have ho : Calls Yba.prog 15 #[pt P, pt P, pt Q] w fun e w' => e = .returned (pt P) ∧ Out B w P S (sv n a - sv m b) w' := op15 B P Q S Y n m a b w hP hQ hB hBS hBw
  go_enter Yba.func5, Yba.ntmps5
  go_wp2_with (go_at_call 15; refine ho.mono ?_; rintro _ w1 ⟨rfl, hl⟩)
  go_end0
  exact ⟨rfl, hl⟩
set_option maxRecDepth 100000 in
theorem times_0 (t : Int) (b1 : (t == 1) = false) (b2 : (t == -1) = false) (B P Q S : Nat) (n : Bool) (a : Int) (w : World) (hP : Num w P S n a) :
    Calls Yba.prog 5 #[pt P, .int .i64 t, pt Q] w fun e w' => e = .returned (.tuple #[]) ∧ Out B w P S (sv n a) w' := by
  have ho : Out B w P S (sv n a) w := ⟨n, a, ⟨hP.got, Below.refl _ _, fun _ _ _ h _ _ => h⟩, rfl⟩
  go_enter Yba.func5, Yba.ntmps5
  go_wp2
  go_end0
  exact ⟨rfl, ho⟩
end Go.Proofs.Ybulkdqwy.M
