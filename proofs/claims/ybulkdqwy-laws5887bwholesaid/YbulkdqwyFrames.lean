/-
  LawS5887BWhole: what an operation leaves as it was; what a big.Int holds.
-/
import Derived.Test.YbulkdqwyBase
namespace Go.Proofs.Ybulkdqwy.M
open Go.RowKit
set_option linter.unusedVariables false
set_option linter.unusedSimpArgs false

/-- Every cell that may be written, but those of block S, is as it was. -/
def Kept (w w' : World) (S : Nat) : Prop := ∀ b o v, At w b o v → b ≠ S → At w' b o v
/-- A natural's operation at length 0, at length 1. -/
def R0 (B : Nat) (w : World) (S : Nat) (_ : Option Addr) (_ : Nat) (w1 : World) : Prop := Below B w w1 ∧ Kept w w1 S
def R1 (B : Nat) (w : World) (S P : Nat) (r : Int) (d : Option Addr) (_ : Nat) (w1 : World) : Prop := Below B w w1 ∧ Kept w w1 S ∧ ∃ C, d = some ⟨C, 0, none⟩ ∧ C ≠ P ∧ w1.cell? ⟨C, 0, none⟩ = some (.int .u64 r)
theorem kept_same (w : World) (q S : Nat) : Kept w (w.drewN q) S := fun _ _ _ h _ => h.drewN q
theorem kept_below {w w' : World} (h : Below w.heap.size w w') (S : Nat) : Kept w w' S := fun _ _ _ k _ => k.later h k.lt
theorem below_same (B : Nat) (w : World) (q : Nat) : Below B w (w.drewN q) := below_drewN (Below.refl _ _) q
theorem below_new (w : World) (q : Nat) (c : Array Value) (t : TypeId) : Below w.heap.size w ((w.drewN q).alloc (.cells c t)) := (below_same _ w q).alloc (Nat.le_refl _) _
theorem kept_set (w : World) (q S : Nat) (u : Value) : Kept w ((w.drewN q).setCell ⟨S, 0, none⟩ u) S := fun b o v h hne => (h.drewN q).set_other (Or.inl (fun e => hne e.symm)) u
theorem below_set (B : Nat) (w : World) (q S : Nat) (u : Value) (hB : B ≤ S) : Below B w ((w.drewN q).setCell ⟨S, 0, none⟩ u) := (below_same B w q).setCell hB u
/-- A big.Int as NewInt makes it: sign n, magnitude a, its word in block S. -/
def Num (w : World) (P S : Nat) (n : Bool) (a : Int) : Prop :=
  At w P 0 (.bool n) ∧ ((a = 0 ∧ n = false ∧ At w P 1 (.slice none 0 0)) ∨ (1 ≤ a ∧ a ≤ 2147483648 ∧ P ≠ S ∧ At w P 1 (.slice (some ⟨S, 0, none⟩) 1 1) ∧ At w S 0 (.int .u64 a)))
/-- A big.Int that is read. -/
def Got (w : World) (P : Nat) (n : Bool) (r : Int) : Prop :=
  w.cell? ⟨P, 0, none⟩ = some (.bool n) ∧ ((r = 0 ∧ n = false ∧ ∃ d c, w.cell? ⟨P, 1, none⟩ = some (.slice d 0 c)) ∨ (1 ≤ r ∧ ∃ C c, w.cell? ⟨P, 1, none⟩ = some (.slice (some ⟨C, 0, none⟩) 1 c) ∧ w.cell? ⟨C, 0, none⟩ = some (.int .u64 r)))
theorem Num.got {w : World} {P S : Nat} {n : Bool} {a : Int} (h : Num w P S n a) : Got w P n a := by
  obtain ⟨h0, ⟨rfl, rfl, h1⟩ | ⟨ha, hb, hne, h1, hS⟩⟩ := h
  · exact ⟨h0.1, Or.inl ⟨rfl, rfl, _, _, h1.1⟩⟩
  · exact ⟨h0.1, Or.inr ⟨ha, _, _, h1.1, hS.1⟩⟩
theorem Num.keep {w w' : World} {P S p s : Nat} {n : Bool} {a : Int} (h : Num w P S n a) (hk : ∀ b o v, At w b o v → b ≠ p → b ≠ s → At w' b o v) (h1 : P ≠ p) (h2 : P ≠ s) (h3 : S ≠ p) (h4 : S ≠ s) : Num w' P S n a := by
  obtain ⟨h0, ⟨rfl, rfl, e⟩ | ⟨ha, hb, hne, e, hS⟩⟩ := h
  · exact ⟨hk _ _ _ h0 h1 h2, Or.inl ⟨rfl, rfl, hk _ _ _ e h1 h2⟩⟩
  · exact ⟨hk _ _ _ h0 h1 h2, Or.inr ⟨ha, hb, hne, hk _ _ _ e h1 h2, hk _ _ _ hS h3 h4⟩⟩
/-- What an operation on P leaves. -/
def Left (B : Nat) (w w' : World) (P S : Nat) (n : Bool) (r : Int) : Prop := Got w' P n r ∧ Below B w w' ∧ ∀ b o v, At w b o v → b ≠ P → b ≠ S → At w' b o v
theorem left0 {B : Nat} {w w1 : World} {P S : Nat} {n : Bool} {s : Value} {d : Option Addr} {cd : Nat} (hB : B ≤ P) (h : R0 B w S d cd w1) (h0 : At w1 P 0 (.bool n)) (h1 : At w1 P 1 s) :
    Left B w ((w1.setCell ⟨P, 1, none⟩ (.slice d 0 cd)).setCell ⟨P, 0, none⟩ (.bool false)) P S false 0 := by
  obtain ⟨hb, hk⟩ := h
  refine ⟨⟨((h0.set_other (by omega) _).set_same _).1, Or.inl ⟨rfl, rfl, d, cd, ((h1.set_same _).set_other (by omega) _).1⟩⟩, (hb.setCell hB _).setCell hB _, ?_⟩
  intro b o v h hp hs
  exact ((hk b o v h hs).set_other (by omega) _).set_other (by omega) _
theorem left1 {B : Nat} {w w1 : World} {P S : Nat} {n m : Bool} {s : Value} {d : Option Addr} {cd : Nat} {r : Int} (hr : 1 ≤ r) (hB : B ≤ P) (h : R1 B w S P r d cd w1) (h0 : At w1 P 0 (.bool n)) (h1 : At w1 P 1 s) :
    Left B w ((w1.setCell ⟨P, 1, none⟩ (.slice d 1 cd)).setCell ⟨P, 0, none⟩ (.bool m)) P S m r := by
  obtain ⟨hb, hk, C, rfl, hC, hc⟩ := h
  refine ⟨⟨((h0.set_other (by omega) _).set_same _).1, Or.inr ⟨hr, C, cd, ((h1.set_same _).set_other (by omega) _).1, ?_⟩⟩, (hb.setCell hB _).setCell hB _, ?_⟩
  · rw [World.cell?_setCell_other _ _ _ _ (by simp only [ne_eq, Addr.mk.injEq, and_true]; omega), World.cell?_setCell_other _ _ _ _ (by simp only [ne_eq, Addr.mk.injEq, and_true]; omega)]
    exact hc
  · intro b o v h hp hs
    exact ((hk b o v h hs).set_other (by omega) _).set_other (by omega) _
end Go.Proofs.Ybulkdqwy.M
