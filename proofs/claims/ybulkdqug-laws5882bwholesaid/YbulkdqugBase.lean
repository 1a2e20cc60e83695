/-
  What the walks of this seat share: cells that may be written, and how they stand behind a store, a draw, a callee that only makes memory.
-/
import Derived.Test.YbulkdqugRows
import Derived.WalkKit
import Derived.WalkSmall
import Derived.Laws.Rows
namespace Go.Proofs.Ybulkdqug.K
open Go.RowKit
theorem hidIt {p : Prop} (h : p) : Hid p := h
/-- A cell that is there and may be written. -/
def At (w : World) (b o : Nat) (v : Value) : Prop := w.cell? ⟨b, o, none⟩ = some v ∧ w.frozen? ⟨b, o, none⟩ = false
theorem At.set_same {w : World} {b o : Nat} {v : Value} (h : At w b o v) (u : Value) : At (w.setCell ⟨b, o, none⟩ u) b o u :=
  ⟨World.cell?_setCell_same _ _ _ h.1, by simpa using h.2⟩
theorem At.set_other {w : World} {b o : Nat} {v : Value} (h : At w b o v) {b' o' : Nat} (hne : b' ≠ b ∨ o' ≠ o) (u : Value) : At (w.setCell ⟨b', o', none⟩ u) b o v := by
  refine ⟨?_, by simpa using h.2⟩
  rw [World.cell?_setCell_other _ _ _ _ ?_]
  · exact h.1
  · simp only [ne_eq, Addr.mk.injEq, and_true]; omega
theorem At.later {w w' : World} {B b o : Nat} {v : Value} (h : At w b o v) (hb : Below B w w') (hB : b < B) : At w' b o v :=
  ⟨(hb.cell (p := ⟨b, o, none⟩) hB).trans h.1, (hb.frozen (p := ⟨b, o, none⟩) hB).trans h.2⟩
theorem At.new {w : World} {c : Array Value} {t : TypeId} {o : Nat} {v : Value} (h : c[o]? = some v) : At (w.alloc (.cells c t)) w.heap.size o v := by
  refine ⟨?_, ?_⟩
  · simp [h]
  · simp
theorem At.lt {w : World} {b o : Nat} {v : Value} (h : At w b o v) : b < w.heap.size := World.block_lt_of_cell? _ _ h.1
theorem bcell {B : Nat} {W w1 : World} (hb : Below B W w1) {b o : Nat} {v : Value} (hbb : b < B) (h : W.cell? ⟨b, o, none⟩ = some v) : w1.cell? ⟨b, o, none⟩ = some v :=
  (hb.cell (p := ⟨b, o, none⟩) hbb).trans h
end Go.Proofs.Ybulkdqug.K
