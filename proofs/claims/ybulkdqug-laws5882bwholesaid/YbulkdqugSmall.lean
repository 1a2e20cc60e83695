/-
  The small callees of LawS5882CWhole: Nodes, Point, node, slices.Equal over points.
-/
import Derived.Test.YbulkdqugBase
import Derived.Deep.RegionHeld3
import Derived.Deep.QuietTactic
import Derived.BigQuiet
import Derived.Laws.StructEq
namespace Go.Proofs.Ybulkdqug.K
open Go.RowKit
set_option maxRecDepth 100000 in
theorem nodes_any (N : Nat) (W H : Int) (hW : 1 ≤ W) (hW2 : W ≤ 256) (hH : 1 ≤ H) (hH2 : H ≤ 256) (w : World) (c0 : w.cell? ⟨N, 0, none⟩ = some (.int .i64 W)) (c1 : w.cell? ⟨N, 1, none⟩ = some (.int .i64 H)) :
    Calls Yba.prog 15 #[.pointer (some ⟨N, 0, none⟩)] w fun e w' => e = .returned (.int .i64 (W * H)) ∧ ∃ q, w' = w.drewN q := by
  have hb : W * H ≤ 65536 := by have := Int.mul_le_mul hW2 hH2 (by omega) (by omega); omega
  have hb0 : 0 ≤ W * H := Int.mul_nonneg (by omega) (by omega)
  go_enter Yba.func15, Yba.ntmps15
  go_wp2
  go_quiet (fail)
  go_wp2
  go_ret
  exact ⟨rfl, nq, rfl⟩
set_option maxRecDepth 100000 in
theorem point_any (N : Nat) (W i : Int) (hW : 1 ≤ W) (hW2 : W ≤ 256) (hi : 0 ≤ i) (hi2 : i ≤ 65536) (w : World) (_hN : N < w.heap.size) (c0 : w.cell? ⟨N, 0, none⟩ = some (.int .i64 W)) :
    Calls Yba.prog 16 #[.pointer (some ⟨N, 0, none⟩), .int .i64 i] w fun e w' => e = .returned (.agg #[.int .i64 (i % W), .int .i64 (i / W)]) ∧ Below w.heap.size w w' := by
  have hne : ¬ W = 0 := by omega
  have e1 : i.tmod W = i % W := Int.tmod_eq_emod_of_nonneg hi
  have e3 : 0 ≤ i / W := Int.ediv_nonneg hi (by omega)
  have e4 : i / W ≤ i := Int.ediv_le_self _ hi
  have e2 : IntKind.i64.wrap (i.tdiv W) = i / W := by
    rw [Int.tdiv_eq_ediv_of_nonneg hi, IntKind.wrap_i64]
    omega
  clear e3 e4
  go_enter Yba.func16, Yba.ntmps16
  go_wp2
  go_region_held3 (fun w' => w'.cell? ⟨N, 0, none⟩ = some (.int .i64 W)) (go_keep) (fail)
  go_wp2
  exact bodyPost_ret (v := .agg #[.int .i64 (i % W), .int .i64 (i / W)]) (by simp [results, Yba.results16, go_sem]) rfl ⟨rfl, ((Below.refl _ _).alloc (Nat.le_refl _) _).drew⟩
set_option maxRecDepth 100000 in
theorem node_any (N : Nat) (W x y : Int) (hW : 1 ≤ W) (hW2 : W ≤ 256) (hx : 0 ≤ x) (hx2 : x ≤ 256) (hy : 0 ≤ y) (hy2 : y ≤ 256) (w : World) (_hN : N < w.heap.size) (c0 : w.cell? ⟨N, 0, none⟩ = some (.int .i64 W)) :
    Calls Yba.prog 17 #[.pointer (some ⟨N, 0, none⟩), .agg #[.int .i64 x, .int .i64 y]] w fun e w' => e = .returned (.int .i64 (y * W + x)) ∧ Below w.heap.size w w' := by
  have hb : y * W ≤ 65536 := by have := Int.mul_le_mul hy2 hW2 (by omega) (by omega); omega
  have hb0 : 0 ≤ y * W := Int.mul_nonneg (by omega) (by omega)
  go_enter Yba.func17, Yba.ntmps17
  go_wp2
  go_quiet (fail)
  go_wp2
  go_ret
  exact ⟨rfl, below_drewN ((Below.refl _ _).alloc (Nat.le_refl _) _) _⟩
theorem neq_pt (x y : Int) (w : World) : (binOp .neq 51 (.agg #[.int .i64 x, .int .i64 y]) (.agg #[.int .i64 x, .int .i64 y])).run Yba.prog w = .ok (.bool false) w := by
  simp [go_sem]
/-- Points in a row: from offset 0 of block B. -/
def Pts (w : World) (B n : Nat) (X Y : Nat → Int) : Prop := ∀ i, i < n → At w B (i * 2) (.int .i64 (X i)) ∧ At w B (i * 2 + 1) (.int .i64 (Y i))
set_option maxRecDepth 100000 in
set_option maxHeartbeats 1000000 in
theorem equal_pts (P K n : Nat) (X Y : Nat → Int) (hn : n ≤ 2000000) (w : World) (h1 : Pts w P n X Y) (h2 : Pts w K n X Y) :
    Calls Yba.prog 12 #[.slice (some ⟨P, 0, none⟩) n n, .slice (some ⟨K, 0, none⟩) n n] w fun e w' => e = .returned (.bool true) ∧ ∃ q, w' = w.drewN q := by
  have H1 := hidIt h1
  have H2 := hidIt h2
  clear h1 h2
  go_enter Yba.func12, Yba.ntmps12
  go_wp2
  go_loopw [5, 13] (fun _ x wr => ∃ k : Nat, x = .int .i64 k ∧ k ≤ n ∧ ∃ q, wr = w.drewN q) (fun _ x _ => n - (intOf x).toNat)
  case atStart => exact ⟨0, rfl, by omega, 0, rfl⟩
  case round =>
    obtain ⟨k, rfl, hk, q, rfl⟩ := hrel
    by_cases hlt : k < n
    · obtain ⟨⟨a0, -⟩, ⟨a1, -⟩⟩ := H1.out k hlt
      obtain ⟨⟨b0, -⟩, ⟨b1, -⟩⟩ := H2.out k hlt
      have i0 : (0 : Int) ≤ (k : Int) := by omega
      have i1 : (k : Int) < (n : Int) := by omega
      have hnq := neq_pt (X k) (Y k)
      go_wp2
      go_quiet (fail)
      go_wp2
      go_roundw
      case rel => exact ⟨k + 1, by go_num, by omega, q + nq, by simp [World.drewN]⟩
      case measure => simp [intOf]; omega
    · go_wp2
      go_ret
      exact ⟨rfl, q, rfl⟩
end Go.Proofs.Ybulkdqug.K
