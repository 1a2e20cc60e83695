/-
  LawS5887BWhole: small naturals: add, sub.
-/
import Derived.Test.YbulkdqwyNorm
namespace Go.Proofs.Ybulkdqwy.M
open Go.RowKit
set_option linter.unusedVariables false
set_option linter.unusedSimpArgs false
/-- A cell that is there and may be written. -/
def At (w : World) (b o : Nat) (v : Value) : Prop := w.cell? ⟨b, o, none⟩ = some v ∧ w.frozen? ⟨b, o, none⟩ = false
theorem At.set_same {w : World} {b o : Nat} {v : Value} (h : At w b o v) (u : Value) : At (w.setCell ⟨b, o, none⟩ u) b o u :=
  ⟨World.cell?_setCell_same _ _ _ h.1, by simpa using h.2⟩
theorem At.set_other {w : World} {b o : Nat} {v : Value} (h : At w b o v) {b' o' : Nat} (hne : b' ≠ b ∨ o' ≠ o) (u : Value) : At (w.setCell ⟨b', o', none⟩ u) b o v := by
  refine ⟨?_, by simpa using h.2⟩
  rw [World.cell?_setCell_other _ _ _ _ ?_]
  · exact h.1
  · simp only [ne_eq, Addr.mk.injEq, and_true]; omega
theorem At.later {w w' : World} {B b o : Nat} {v : Value} (h : At w b o v) (hb : Below B w w') (hB : b < B) : At w' b o v :=
  ⟨(hb.cell (p := ⟨b, o, none⟩) hB).trans h.1, (hb.frozen (p := ⟨b, o, none⟩) hB).trans h.2⟩
theorem At.new {w : World} {c : Array Value} {t : TypeId} {o : Nat} {v : Value} (h : c[o]? = some v) : At (w.alloc (.cells c t)) w.heap.size o v := by
  refine ⟨?_, ?_⟩
  · simp [h]
  · simp
theorem At.lt {w : World} {b o : Nat} {v : Value} (h : At w b o v) : b < w.heap.size := World.block_lt_of_cell? _ _ h.1
theorem bcell {B : Nat} {W w1 : World} (hb : Below B W w1) {b o : Nat} {v : Value} (hbb : b < B) (h : W.cell? ⟨b, o, none⟩ = some v) : w1.cell? ⟨b, o, none⟩ = some v :=
  (hb.cell (p := ⟨b, o, none⟩) hbb).trans h
theorem At.drewN {w : World} {b o : Nat} {v : Value} (h : At w b o v) (q : Nat) : At (w.drewN q) b o v := ⟨h.1, h.2⟩
theorem newW (w : World) (k : Nat) (u : Int) :
    At ((((w.alloc (Obj.cells #[Value.int IntKind.u64 0, Value.int IntKind.u64 0, Value.int IntKind.u64 0, Value.int IntKind.u64 0, Value.int IntKind.u64 0, Value.int IntKind.u64 0] 31)).drewN k).setCell ⟨w.heap.size, 0, none⟩ (.int .u64 u)).setCell ⟨w.heap.size, 1, none⟩ (.int .u64 0)) w.heap.size 0 (.int .u64 u) ∧
    At ((((w.alloc (Obj.cells #[Value.int IntKind.u64 0, Value.int IntKind.u64 0, Value.int IntKind.u64 0, Value.int IntKind.u64 0, Value.int IntKind.u64 0, Value.int IntKind.u64 0] 31)).drewN k).setCell ⟨w.heap.size, 0, none⟩ (.int .u64 u)).setCell ⟨w.heap.size, 1, none⟩ (.int .u64 0)) w.heap.size 1 (.int .u64 0) ∧
    Below w.heap.size w ((((w.alloc (Obj.cells #[Value.int IntKind.u64 0, Value.int IntKind.u64 0, Value.int IntKind.u64 0, Value.int IntKind.u64 0, Value.int IntKind.u64 0, Value.int IntKind.u64 0] 31)).drewN k).setCell ⟨w.heap.size, 0, none⟩ (.int .u64 u)).setCell ⟨w.heap.size, 1, none⟩ (.int .u64 0)) := by
  have h0 : At ((w.alloc (Obj.cells #[Value.int IntKind.u64 0, Value.int IntKind.u64 0, Value.int IntKind.u64 0, Value.int IntKind.u64 0, Value.int IntKind.u64 0, Value.int IntKind.u64 0] 31)).drewN k) w.heap.size 0 (.int .u64 0) := (At.new rfl).drewN k
  have h1 : At ((w.alloc (Obj.cells #[Value.int IntKind.u64 0, Value.int IntKind.u64 0, Value.int IntKind.u64 0, Value.int IntKind.u64 0, Value.int IntKind.u64 0, Value.int IntKind.u64 0] 31)).drewN k) w.heap.size 1 (.int .u64 0) := (At.new rfl).drewN k
  exact ⟨(h0.set_same _).set_other (by omega) _, (h1.set_other (by omega) _).set_same _, ((below_drewN ((Below.refl _ _).alloc (Nat.le_refl _) _) k).setCell (Nat.le_refl _) _).setCell (Nat.le_refl _) _⟩
theorem vv24 (args : Array Value) (w : World) : (callFunc 24 args).run Yba.prog w = .ok (.enter 8 args) w :=
  run_callFunc_twin (twin := "math/big.addVV_g") Yba.func24 (by kernel_rfl) (by kernel_rfl) (by kernel_rfl) (by kernel_rfl) Yba.func8 (by kernel_rfl) (by kernel_rfl) (by kernel_rfl) args w
theorem vv28 (args : Array Value) (w : World) : (callFunc 28 args).run Yba.prog w = .ok (.enter 9 args) w :=
  run_callFunc_twin (twin := "math/big.subVV_g") Yba.func28 (by kernel_rfl) (by kernel_rfl) (by kernel_rfl) (by kernel_rfl) Yba.func9 (by kernel_rfl) (by kernel_rfl) (by kernel_rfl) args w
theorem addVV' (Z X Y cz cx cy : Nat) (x y : Int) (hx : 0 ≤ x) (hy : 0 ≤ y) (hs : x + y < 18446744073709551616) (w : World) (hX : w.cell? ⟨X, 0, none⟩ = some (.int .u64 x)) (hY : w.cell? ⟨Y, 0, none⟩ = some (.int .u64 y)) (hZ : ∃ z : Int, w.cell? ⟨Z, 0, none⟩ = some (.int .u64 z)) (hf : w.frozen? ⟨Z, 0, none⟩ = false) :
    Calls Yba.prog 8 #[.slice (some ⟨Z, 0, none⟩) 1 cz, .slice (some ⟨X, 0, none⟩) 1 cx, .slice (some ⟨Y, 0, none⟩) 1 cy] w fun e w' => e = .returned (.int .u64 0) ∧ ∃ q, w' = (w.drewN q).setCell ⟨Z, 0, none⟩ (.int .u64 (x + y)) := by
  obtain ⟨z, hZ⟩ := hZ
  exact addVV Z X Y cz cx cy x y z hx hy hs w hX hY hZ hf
theorem keepV (v : World) (M S Y : Nat) (s y u : Int) (n1 : ¬ M = S) (n2 : ¬ M = Y) (hS : v.cell? ⟨S, 0, none⟩ = some (.int .u64 s)) (hY : v.cell? ⟨Y, 0, none⟩ = some (.int .u64 y)) (hM : ∃ z : Int, v.cell? ⟨M, 0, none⟩ = some (.int .u64 z)) (hf : v.frozen? ⟨M, 0, none⟩ = false) :
    (v.setCell ⟨M, 0, none⟩ (.int .u64 u)).cell? ⟨S, 0, none⟩ = some (.int .u64 s) ∧ (v.setCell ⟨M, 0, none⟩ (.int .u64 u)).cell? ⟨Y, 0, none⟩ = some (.int .u64 y) ∧ (∃ z : Int, (v.setCell ⟨M, 0, none⟩ (.int .u64 u)).cell? ⟨M, 0, none⟩ = some (.int .u64 z)) ∧ (v.setCell ⟨M, 0, none⟩ (.int .u64 u)).frozen? ⟨M, 0, none⟩ = false := by
  obtain ⟨z, hM⟩ := hM
  refine ⟨?_, ?_, ⟨u, World.cell?_setCell_same _ _ _ hM⟩, by simpa using hf⟩
  · rw [World.cell?_setCell_other _ _ _ _ (by simp only [ne_eq, Addr.mk.injEq, and_true]; omega)]; exact hS
  · rw [World.cell?_setCell_other _ _ _ _ (by simp only [ne_eq, Addr.mk.injEq, and_true]; omega)]; exact hY
def z6 : Array Value := #[.int .u64 0, .int .u64 0, .int .u64 0, .int .u64 0, .int .u64 0, .int .u64 0]
set_option maxRecDepth 100000 in
set_option maxHeartbeats 1000000 in
theorem add_11 (S Y : Nat) (s y : Int) (hs : 1 ≤ s) (hy : 1 ≤ y) (hb : s + y < 18446744073709551616) (w : World) (hS : w.cell? ⟨S, 0, none⟩ = some (.int .u64 s)) (hY : w.cell? ⟨Y, 0, none⟩ = some (.int .u64 y)) :
    Calls Yba.prog 18 #[.slice (some ⟨S, 0, none⟩) 1 1, .slice (some ⟨S, 0, none⟩) 1 1, .slice (some ⟨Y, 0, none⟩) 1 1] w fun e w' => e = .returned (.slice (some ⟨w.heap.size, 0, none⟩) 1 6) ∧ w'.cell? ⟨w.heap.size, 0, none⟩ = some (.int .u64 (s + y)) ∧ Below w.heap.size w w' := by
  have lS : S < w.heap.size := World.block_lt_of_cell? _ _ hS
  have lY : Y < w.heap.size := World.block_lt_of_cell? _ _ hY
  have h24 := vv24
  have a1 : (w.alloc (Obj.cells #[Value.int IntKind.u64 0, Value.int IntKind.u64 0, Value.int IntKind.u64 0, Value.int IntKind.u64 0, Value.int IntKind.u64 0, Value.int IntKind.u64 0] 31)).cell? ⟨S, 0, none⟩ = some (.int .u64 s) := (((Below.refl w.heap.size w).alloc (Nat.le_refl _) _).cell (p := ⟨S, 0, none⟩) lS).trans hS
  have a2 : (w.alloc (Obj.cells #[Value.int IntKind.u64 0, Value.int IntKind.u64 0, Value.int IntKind.u64 0, Value.int IntKind.u64 0, Value.int IntKind.u64 0, Value.int IntKind.u64 0] 31)).cell? ⟨Y, 0, none⟩ = some (.int .u64 y) := (((Below.refl w.heap.size w).alloc (Nat.le_refl _) _).cell (p := ⟨Y, 0, none⟩) lY).trans hY
  have n1 : ¬ w.heap.size = S := by omega
  have n2 : ¬ w.heap.size = Y := by omega
  go_enter Yba.func18, Yba.ntmps18
  go_wp2_with (go_at_call 23; refine (make2 S _).mono ?_; rintro _ _ ⟨rfl, rfl⟩)
  go_region_held3 (fun w' => w'.cell? ⟨S, 0, none⟩ = some (.int .u64 s) ∧ w'.cell? ⟨Y, 0, none⟩ = some (.int .u64 y) ∧ (∃ z : Int, w'.cell? ⟨w.heap.size, 0, none⟩ = some (.int .u64 z)) ∧ w'.frozen? ⟨w.heap.size, 0, none⟩ = false) (first | (go_keep; done) | (exact keepV _ _ _ _ _ _ _ n1 n2 (by simp [*]) (by simp [*]) (by simp [*]) (by simp [*])))
    (first | (go_at_call 8; refine (addVV' w.heap.size S Y _ _ _ s y (by omega) (by omega) hb _ ?_ ?_ ?_ ?_).mono ?_; (simp [*]); (simp [*]); (simp [*]); (simp [*]); rintro e w' ⟨rfl, q, rfl⟩))
  go_wp2_with (go_at_call 26; refine (norm2 w.heap.size (s + y) (by omega) _ (newW w _ (s + y)).1.1 (newW w _ (s + y)).2.1.1).mono ?_; rintro _ _ ⟨rfl, rfl⟩)
  go_ret
  exact ⟨rfl, (newW w _ (s + y)).1.1, (newW w _ (s + y)).2.2⟩
end Go.Proofs.Ybulkdqwy.M
