/-
  LawS5887BWhole: small things for big.Int's Add and Sub.
-/
import Derived.Test.YbulkdqwyInt64
import Derived.Deep.RegionWith
namespace Go.Proofs.Ybulkdqwy.M
open Go.RowKit
set_option linter.unusedVariables false
set_option linter.unusedSimpArgs false
theorem drew1 (w : World) (a : Nat) : (w.drewN a).drew = w.drewN (a + 1) := rfl
theorem drew2 (w : World) (a b : Nat) : (w.drewN a).drewN b = w.drewN (a + b) := by simp [World.drewN, Nat.add_assoc]
theorem quietN {P : Program} {f : FuncId} {args : Array Value} {w : World} {k n : Nat} {v : Value}
    (h : Calls P f args (w.drewN (k + n)) fun e w' => e = .returned v ∧ ∃ m, w' = (w.drewN (k + n)).drewN m) : Calls P f args (w.drewN (k + n)) fun e w'' => e = .returned v ∧ ∃ m, w'' = w.drewN (k + m) :=
  h.mono fun _ _ ⟨he, m, hm⟩ => ⟨he, n + m, by rw [hm, World.drewN_drewN, Nat.add_assoc]⟩
abbrev pt (P : Nat) : Value := .pointer (some ⟨P, 0, none⟩)
end Go.Proofs.Ybulkdqwy.M
