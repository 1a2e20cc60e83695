/-
  LawS5882CWhole: make and copy over points, rows of bools, one node compared with itself.
-/
import Derived.Test.YbulkdqugOutcome
import Derived.Laws.IdiomCopy
namespace Go.Proofs.Ybulkdqug.K
open Go.RowKit
/-! ### make and copy over points -/
theorem info51 : (Yba.prog.info? 51).map (fun i => (i.zero, i.size, i.bytes)) = some (some (.agg #[.int .i64 0, .int .i64 0]), 2, 16) := by kernel_rfl
def ptZ : Array Value := #[.int .i64 0, .int .i64 0]
theorem make36 (n : Nat) (hn : n ≤ 2000000) (w : World) : (Instr.makeSlice 36 (.int .i64 (n : Int)) (.int .i64 (n : Int))).run Yba.prog w = .ok (.slice (some ⟨w.heap.size, 0, none⟩) n n) (w.alloc (.cells (madeCells ptZ (n * 2)) 51)) := by
  obtain ⟨i, hi, hzz⟩ := Option.map_eq_some_iff.1 info51
  simp only [Prod.mk.injEq] at hzz
  obtain ⟨hz, hs, hb⟩ := hzz
  have hr := run_make (P := Yba.prog) w 36 51 i _ Yba.underlying36 hi hz .i64 .i64 n n (by omega) (Int.le_refl _) (by rw [hb]; omega) (by omega)
  simp only [Int.toNat_natCast, hs] at hr
  exact hr
theorem madePt (n i j : Nat) (hi : i < n) (hj : j < 2) : (madeCells ptZ (n * 2))[i * 2 + j]? = ptZ[j]? := by
  have hlt : i * 2 + j < n * 2 := by omega
  have hm : (i * 2 + j) % 2 = j := by omega
  unfold madeCells
  rw [Array.getElem?_map, Array.getElem?_range, if_pos hlt]
  simp only [Option.map_some]
  show some (ptZ[(i * 2 + j) % 2]!) = _
  rw [hm]
  have h6 : j < ptZ.size := hj
  rw [getElem!_pos ptZ j h6, Array.getElem?_eq_getElem h6]
theorem Pts.new (w : World) (n : Nat) : Pts (w.alloc (.cells (madeCells ptZ (n * 2)) 51)) w.heap.size n (fun _ => 0) (fun _ => 0) := by
  intro i hi
  exact ⟨At.new (by rw [show i * 2 = i * 2 + 0 from rfl, madePt n i 0 hi (by omega)]; rfl), At.new (by rw [madePt n i 1 hi (by omega)]; rfl)⟩
theorem Pts.later {w w' : World} {P n : Nat} {X Y : Nat → Int} (h : Pts w P n X Y) {B : Nat} (hb : Below B w w') (hP : P < B) : Pts w' P n X Y :=
  fun i hi => ⟨(h i hi).1.later hb hP, (h i hi).2.later hb hP⟩
def putI (f : Nat → Int) (k : Nat) (v : Int) : Nat → Int := fun j => if j = k then v else f j
theorem Pts.put {w : World} {P n : Nat} {X Y : Nat → Int} (h : Pts w P n X Y) (k : Nat) (a b : Int) : Pts ((w.setCell ⟨P, k * 2, none⟩ (.int .i64 a)).setCell ⟨P, k * 2 + 1, none⟩ (.int .i64 b)) P n (putI X k a) (putI Y k b) := by
  intro i hi
  obtain ⟨h0, h1⟩ := h i hi
  by_cases e : i = k
  · subst e; simp only [putI, if_true]; exact ⟨(h0.set_same _).set_other (by omega) _, (h1.set_other (by omega) _).set_same _⟩
  · simp only [putI, e, if_false]; exact ⟨(h0.set_other (by omega) _).set_other (by omega) _, (h1.set_other (by omega) _).set_other (by omega) _⟩
theorem Pts.congr {w : World} {P n : Nat} {X Y X' Y' : Nat → Int} (h : Pts w P n X Y) (hx : ∀ i, i < n → X i = X' i) (hy : ∀ i, i < n → Y i = Y' i) : Pts w P n X' Y' :=
  fun i hi => ⟨hx i hi ▸ (h i hi).1, hy i hi ▸ (h i hi).2⟩
/-- The cells of n points. -/
def ptCells (X Y : Nat → Int) (n : Nat) : List Value := (List.range (n * 2)).map fun j => if j % 2 = 0 then .int .i64 (X (j / 2)) else .int .i64 (Y (j / 2))
theorem length_ptCells (X Y : Nat → Int) (n : Nat) : (ptCells X Y n).length = n * 2 := by simp [ptCells]
theorem ptCells_at (X Y : Nat → Int) (n j : Nat) (hj : j < n * 2) : (ptCells X Y n)[j]? = some (if j % 2 = 0 then .int .i64 (X (j / 2)) else .int .i64 (Y (j / 2))) := by
  simp [ptCells, hj]
theorem Pts.cell {w : World} {P n : Nat} {X Y : Nat → Int} (h : Pts w P n X Y) (j : Nat) (hj : j < n * 2) : At w P j (if j % 2 = 0 then .int .i64 (X (j / 2)) else .int .i64 (Y (j / 2))) := by
  obtain ⟨h0, h1⟩ := h (j / 2) (by omega)
  by_cases e : j % 2 = 0
  · rw [if_pos e]; rw [show j / 2 * 2 = j from by omega] at h0; exact h0
  · rw [if_neg e]; rw [show j / 2 * 2 + 1 = j from by omega] at h1; exact h1
theorem copy_pts (ty : TypeId) (P Q n : Nat) (X Y X' Y' : Nat → Int) (w : World) (h1 : Pts w P n X Y) (h2 : Pts w Q n X' Y') :
    (Builtin.copy_ #[36, 36] ty #[.slice (some ⟨Q, 0, none⟩) n n, .slice (some ⟨P, 0, none⟩) n n]).run Yba.prog w = .ok (goInt n) (w.setCells Q 0 (ptCells X Y n)) := by
  obtain ⟨i, hi, hzz⟩ := Option.map_eq_some_iff.1 info51
  simp only [Prod.mk.injEq] at hzz
  obtain ⟨-, hs, -⟩ := hzz
  have hl := run_loadCells_list (P := Yba.prog) w ⟨P, 0, none⟩ (ptCells X Y n) (fun j v hv => by
    have hj : j < n * 2 := by
      rcases Nat.lt_or_ge j (n * 2) with h | h
      · exact h
      · rw [List.getElem?_eq_none (by rw [length_ptCells]; exact h)] at hv; cases hv
    rw [ptCells_at X Y n j hj] at hv
    have := (h1.cell j hj).1
    rw [show (⟨P, 0, none⟩ : Addr).add j = ⟨P, j, none⟩ from by unfold Addr.add; split <;> simp_all, this]
    exact hv)
  have hst := run_storeCells_cells (P := Yba.prog) Q 0 (ptCells X Y n) 0 w (fun j hj => by
      rw [length_ptCells] at hj
      rw [show 0 + 0 + j = j from by omega, (h2.cell j hj).1]; rfl) (fun j hj => by
      rw [length_ptCells] at hj
      rw [show 0 + 0 + j = j from by omega]; exact (h2.cell j hj).2) (fun v hv => by
      simp only [ptCells, List.mem_map] at hv
      obtain ⟨j, -, rfl⟩ := hv
      split <;> rfl)
  rw [length_ptCells] at hl
  simp [Builtin.copy_, run_underlying Yba.underlying36, Builtin.lenOf, Builtin.firstCells, sizeOf, typeInfo, hi, hs, hl, hst]
theorem frozen_setCells (b : Nat) (p : Addr) : ∀ (vs : List Value) (o : Nat) (w : World), (w.setCells b o vs).frozen? p = w.frozen? p
  | [], _, _ => rfl
  | v :: r, o, w => by rw [World.setCells, frozen_setCells b p r (o + 1), World.frozen?_setCell]
theorem below_setCells {B : Nat} {a : World} (b : Nat) (hb : B ≤ b) : ∀ (vs : List Value) (o : Nat) (w : World), Below B a w → Below B a (w.setCells b o vs)
  | [], _, _, h => h
  | v :: r, o, w, h => by rw [World.setCells]; exact below_setCells b hb r (o + 1) _ (h.setCell hb _)
theorem size_setCells (b : Nat) : ∀ (vs : List Value) (o : Nat) (w : World), (w.setCells b o vs).heap.size = w.heap.size
  | [], _, _ => rfl
  | v :: r, o, w => by rw [World.setCells, size_setCells b r (o + 1)]; simp
theorem At.cells_other {w : World} {b o : Nat} {v : Value} (h : At w b o v) {q : Nat} (hne : b ≠ q) (vs : List Value) : At (w.setCells q 0 vs) b o v :=
  ⟨(World.cell?_setCells_out q vs 0 w ⟨b, o, none⟩ (fun e => absurd e hne)).trans h.1, (frozen_setCells q _ vs 0 w).trans h.2⟩
theorem Pts.copied {w : World} {Q n : Nat} {X' Y' : Nat → Int} (h : Pts w Q n X' Y') (X Y : Nat → Int) : Pts (w.setCells Q 0 (ptCells X Y n)) Q n X Y := by
  have key : ∀ j, j < n * 2 → At (w.setCells Q 0 (ptCells X Y n)) Q j (if j % 2 = 0 then .int .i64 (X (j / 2)) else .int .i64 (Y (j / 2))) := by
    intro j hj
    refine ⟨?_, (frozen_setCells Q _ _ 0 w).trans (h.cell j hj).2⟩
    have hlen : j < (ptCells X Y n).length := by rw [length_ptCells]; exact hj
    have := World.cell?_setCells_in Q (ptCells X Y n) 0 w (fun i hi => by
      rw [length_ptCells] at hi
      rw [show 0 + i = i from by omega, (h.cell i hi).1]; rfl) j hlen
    rw [show 0 + j = j from by omega] at this
    rw [this]
    have h2 := ptCells_at X Y n j hj
    rw [List.getElem?_eq_getElem hlen] at h2
    exact h2
  intro i hi
  have a0 := key (i * 2) (by omega)
  have a1 := key (i * 2 + 1) (by omega)
  rw [if_pos (by omega), show i * 2 / 2 = i from by omega] at a0
  rw [if_neg (by omega), show (i * 2 + 1) / 2 = i from by omega] at a1
  exact ⟨a0, a1⟩
/-! ### make over bools and rows of bools -/
theorem info65 : (Yba.prog.info? 65).map (fun i => (i.zero, i.size, i.bytes)) = some (some (.slice none 0 0), 1, 24) := by kernel_rfl
theorem info4 : (Yba.prog.info? 4).map (fun i => (i.zero, i.size, i.bytes)) = some (some (.bool false), 1, 1) := by kernel_rfl
theorem make64 (n : Nat) (hn : n ≤ 256) (w : World) : (Instr.makeSlice 64 (.int .i64 (n : Int)) (.int .i64 (n : Int))).run Yba.prog w = .ok (.slice (some ⟨w.heap.size, 0, none⟩) n n) (w.alloc (.cells (madeCells #[.slice none 0 0] n) 65)) :=
  run_make_row' 64 65 (.slice none 0 0) 24 Yba.underlying64 info65 rfl .i64 .i64 n (by omega) (by omega) w
theorem make65 (n : Nat) (hn : n ≤ 256) (w : World) : (Instr.makeSlice 65 (.int .i64 (n : Int)) (.int .i64 (n : Int))).run Yba.prog w = .ok (.slice (some ⟨w.heap.size, 0, none⟩) n n) (w.alloc (.cells (madeCells #[.bool false] n) 4)) :=
  run_make_row' 65 4 (.bool false) 1 Yba.underlying65 info4 rfl .i64 .i64 n (by omega) (by omega) w
theorem made_at (z : Value) (n i : Nat) (hi : i < n) : (madeCells #[z] n)[i]? = some z := by
  rw [← Array.getElem?_toList, toList_madeCells_one]
  simp [hi]
theorem neq_node (x y : Int) (r : ByteArray) (c : Bool) (v : Int) (w : World) : (binOp .neq 68 (.agg #[.int .i64 x, .int .i64 y, .string r, .bool c, .int .i64 v, .int .i64 0]) (.agg #[.int .i64 x, .int .i64 y, .string r, .bool c, .int .i64 v, .int .i64 0])).run Yba.prog w = .ok (.bool false) w := by
  simp [go_sem]
end Go.Proofs.Ybulkdqug.K
