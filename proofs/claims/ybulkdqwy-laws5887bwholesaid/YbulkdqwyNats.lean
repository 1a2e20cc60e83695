/-
  LawS5887BWhole: small naturals (at most one word): make, set, norm, cmp, add, sub.
-/
import Derived.Test.YbulkdqwyWords
import Derived.Laws.IdiomCopy
namespace Go.Proofs.Ybulkdqwy.M
open Go.RowKit
set_option linter.unusedVariables false
set_option linter.unusedSimpArgs false
set_option maxRecDepth 100000 in
theorem make1_new (w : World) :
    Calls Yba.prog 23 #[.slice none 0 0, .int .i64 1] w fun e w' => e = .returned (.slice (some ⟨w.heap.size, 0, none⟩) 1 1) ∧ w' = w.alloc (.cells #[.int .u64 0] 31) := by
  have hm : ∀ w : World, (Instr.makeSlice 32 (.int .i64 1) (.int .i64 1)).run Yba.prog w = .ok (.slice (some ⟨w.heap.size, 0, none⟩) 1 1) (w.alloc (.cells #[.int .u64 0] 31)) := fun w => by kernel_rfl
  go_enter Yba.func23, Yba.ntmps23
  go_wp2
  go_ret
  exact ⟨rfl, rfl⟩
set_option maxRecDepth 100000 in
theorem make1_old (S : Nat) (w : World) :
    Calls Yba.prog 23 #[.slice (some ⟨S, 0, none⟩) 1 1, .int .i64 1] w fun e w' => e = .returned (.slice (some ⟨S, 0, none⟩) 1 1) ∧ w' = w := by
  go_enter Yba.func23, Yba.ntmps23
  go_wp2
  go_ret
  exact ⟨rfl, rfl⟩
set_option maxRecDepth 100000 in
theorem make2 (S : Nat) (w : World) :
    Calls Yba.prog 23 #[.slice (some ⟨S, 0, none⟩) 1 1, .int .i64 2] w fun e w' => e = .returned (.slice (some ⟨w.heap.size, 0, none⟩) 2 6) ∧ w' = w.alloc (.cells #[.int .u64 0, .int .u64 0, .int .u64 0, .int .u64 0, .int .u64 0, .int .u64 0] 31) := by
  have hm : ∀ w : World, (Instr.makeSlice 32 (.int .i64 2) (.int .i64 6)).run Yba.prog w = .ok (.slice (some ⟨w.heap.size, 0, none⟩) 2 6) (w.alloc (.cells #[.int .u64 0, .int .u64 0, .int .u64 0, .int .u64 0, .int .u64 0, .int .u64 0] 31)) := fun w => by kernel_rfl
  go_enter Yba.func23, Yba.ntmps23
  go_wp2
  go_ret
  exact ⟨rfl, rfl⟩
theorem info31 : (Yba.prog.info? 31).map (fun i => (i.zero, i.size, i.bytes)) = some (some (.int .u64 0), 1, 8) := by kernel_rfl
theorem copy1 (ty : TypeId) (S X : Nat) (x : Int) (s : Value) (w : World) (hX : w.cell? ⟨X, 0, none⟩ = some (.int .u64 x)) (hS : w.cell? ⟨S, 0, none⟩ = some s) (hf : w.frozen? ⟨S, 0, none⟩ = false) :
    (Builtin.copy_ #[32, 32] ty #[.slice (some ⟨S, 0, none⟩) 1 1, .slice (some ⟨X, 0, none⟩) 1 1]).run Yba.prog w = .ok (.int .i64 1) (w.setCell ⟨S, 0, none⟩ (.int .u64 x)) := by
  obtain ⟨i, hi, hzz⟩ := Option.map_eq_some_iff.1 info31
  simp only [Prod.mk.injEq] at hzz
  obtain ⟨-, hs, -⟩ := hzz
  have hl := run_loadCells_list (P := Yba.prog) w ⟨X, 0, none⟩ [.int .u64 x] (fun j v hv => by
    cases j with
    | zero => simp at hv; subst hv; simpa [Addr.add] using hX
    | succ j => simp at hv)
  have hst := run_storeCells_cells (P := Yba.prog) S 0 [.int .u64 x] 0 w (fun j hj => by
      obtain rfl : j = 0 := by simpa using hj
      simp [hS]) (fun j hj => by
      obtain rfl : j = 0 := by simpa using hj
      simpa using hf) (fun v hv => by
      simp at hv; subst hv; rfl)
  simp only [List.length_singleton] at hl
  simp [Builtin.copy_, run_underlying Yba.underlying32, Builtin.lenOf, Builtin.firstCells, sizeOf, typeInfo, hi, hs, hl, hst, goInt, World.setCells]
set_option maxRecDepth 100000 in
theorem set_new (X : Nat) (x : Int) (w : World) (hX : w.cell? ⟨X, 0, none⟩ = some (.int .u64 x)) :
    Calls Yba.prog 22 #[.slice none 0 0, .slice (some ⟨X, 0, none⟩) 1 1] w fun e w' => e = .returned (.slice (some ⟨w.heap.size, 0, none⟩) 1 1) ∧ w' = w.alloc (.cells #[.int .u64 x] 31) := by
  have hlt := World.block_lt_of_cell? _ _ hX
  have hc := fun ty => copy1 ty w.heap.size X x (.int .u64 0) (w.alloc (.cells #[.int .u64 0] 31)) (by rw [← hX]; exact ((Below.refl w.heap.size w).alloc (Nat.le_refl _) _).cell (p := ⟨X, 0, none⟩) hlt) (by simp) (by simp)
  go_enter Yba.func22, Yba.ntmps22
  go_wp2_with (go_at_call 23; refine (make1_new _).mono ?_; rintro _ _ ⟨rfl, rfl⟩)
  go_ret
  exact ⟨rfl, by simp⟩
set_option maxRecDepth 100000 in
theorem set_old (S X : Nat) (x s : Int) (w : World) (hX : w.cell? ⟨X, 0, none⟩ = some (.int .u64 x)) (hS : w.cell? ⟨S, 0, none⟩ = some (.int .u64 s)) (hf : w.frozen? ⟨S, 0, none⟩ = false) :
    Calls Yba.prog 22 #[.slice (some ⟨S, 0, none⟩) 1 1, .slice (some ⟨X, 0, none⟩) 1 1] w fun e w' => e = .returned (.slice (some ⟨S, 0, none⟩) 1 1) ∧ w' = w.setCell ⟨S, 0, none⟩ (.int .u64 x) := by
  have hc := fun ty => copy1 ty S X x _ w hX hS hf
  go_enter Yba.func22, Yba.ntmps22
  go_wp2_with (go_at_call 23; refine (make1_old _ _).mono ?_; rintro _ _ ⟨rfl, rfl⟩)
  go_ret
  exact ⟨rfl, rfl⟩
end Go.Proofs.Ybulkdqwy.M
