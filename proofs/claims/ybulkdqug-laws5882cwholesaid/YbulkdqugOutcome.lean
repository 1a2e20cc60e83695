/-
  newOutcome: its contract: the outcome that it returns, the nodes in memory.
-/
import Derived.Test.YbulkdqugState
import Derived.Deep.DeepCutAuto
import Derived.Deep.CutBlock
namespace Go.Proofs.Ybulkdqug.K
open Go.RowKit
set_option maxRecDepth 100000 in
set_option maxHeartbeats 1600000 in
theorem outcome_any (N P n : Nat) (W H value : Int) (T : Nat) (X Y : Nat → Int) (hT : W * H = T) (hW : 1 ≤ W) (hW2 : W ≤ 256) (hH : 1 ≤ H) (hH2 : H ≤ 256) (hn : n ≤ 2000000) (w : World)
    (cN0 : w.cell? ⟨N, 0, none⟩ = some (.int .i64 W)) (cN1 : w.cell? ⟨N, 1, none⟩ = some (.int .i64 H)) (hN : N < w.heap.size) (hP : P < w.heap.size) (hpts : Pts w P n X Y) (hXY : ∀ i, i < n → 0 ≤ X i ∧ X i < W ∧ 0 ≤ Y i ∧ Y i < H) :
    Calls Yba.prog 11 #[.agg #[.pointer (some ⟨N, 0, none⟩), .string ⟨#[]⟩, .int .i64 value, .slice (some ⟨P, 0, none⟩) n n, .string ⟨#[]⟩, .map none, .int .i64 0, .int .i64 0, .int .i64 0]] w
      fun e w' => e = .returned (.pointer (some ⟨w.heap.size + 1 + 1, 0, none⟩)) ∧ OS w w' N P n T value (fin W value X Y n) := by
  have hTb : T ≤ 65536 := by have := Int.mul_le_mul hW2 hH2 (by omega) (by omega); omega
  have HT := hidIt hT
  have hmk := make59 T (by omega)
  have Hpts := hidIt hpts
  have HXY := hidIt hXY
  clear hT hpts hXY
  go_enter Yba.func11, Yba.ntmps11
  go_wp2
  go_region_held3 (fun w' => w'.cell? ⟨w.heap.size, 2, none⟩ = some (.int .i64 value) ∧ w'.cell? ⟨w.heap.size, 0, none⟩ = some (.pointer (some ⟨N, 0, none⟩)) ∧ w'.cell? ⟨N, 0, none⟩ = some (.int .i64 W) ∧ w'.cell? ⟨N, 1, none⟩ = some (.int .i64 H)) (go_keep)
    (first | (go_at_call 15; refine (nodes_T N W H T HT.out hW hW2 hH hH2 _ ?_ ?_).mono ?_; (simp [*]); (simp [*]); rintro e w' ⟨rfl, q, rfl⟩))
  have H0 := hidIt (OS.start w N P n T value (1 + q))
  go_upto_block 0 with fail
  go_cut [4, 20] (fun _ _ w1 => Hid (∃ f, OS w w1 N P n T value f ∧ ∀ j, j < T → f j = init W j))
  case first =>
    go_wp2
    go_loopw [4, 20] (fun _ x wr => ∃ k : Nat, x = .int .i64 k ∧ k ≤ T ∧ ∃ f, Hid (OS w wr N P n T value f ∧ ∀ j, j < k → f j = init W j)) (fun _ x _ => T - (intOf x).toNat)
    case atStart => exact ⟨0, rfl, by omega, _, hidIt ⟨H0.out, fun j hj => absurd hj (by omega)⟩⟩
    case round =>
      obtain ⟨k, rfl, hk, f, G⟩ := hrel
      by_cases hlt : k < T
      · obtain ⟨⟨⟨y0, -⟩, -, -⟩, ⟨-, ⟨y1, -⟩, -⟩, -, hBw, hsz⟩ := G.out.1
        have yN := bcell hBw hN cN0
        have hNr : N < wr.heap.size := by omega
        clear hBw
        have hNe : ¬ w.heap.size + 1 = N := by omega
        have hNe' : ¬ N = w.heap.size + 1 := by omega
        have i0 : (0 : Int) ≤ (k : Int) := by omega
        have i1 : (k : Int) < (T : Int) := by omega
        go_wp2
        go_region_held3 (fun w' => w'.cell? ⟨w.heap.size, 0, none⟩ = some (.pointer (some ⟨N, 0, none⟩)) ∧ w'.cell? ⟨w.heap.size + 1 + 1, 1, none⟩ = some (.slice (some ⟨w.heap.size + 1, 0, none⟩) T T) ∧ w'.cell? ⟨N, 0, none⟩ = some (.int .i64 W)) (go_keep)
          (first | (go_at_call 16; refine (point_any N W (k : Int) hW hW2 i0 (by omega) _ ?_ ?_).mono ?_; (simp [*]); (simp [*]); rintro e w' ⟨rfl, hb⟩; have GL := hidIt (G.out.1.laterD hb); obtain ⟨⟨⟨z0, -⟩, -, -⟩, ⟨-, ⟨z1, -⟩, -⟩, zN, zB, -⟩ := GL.out; have zNN := bcell zB hN cN0; obtain ⟨⟨n0, g0⟩, ⟨n1, g1⟩, ⟨n2, g2⟩, ⟨n3, g3⟩, ⟨n4, g4⟩, ⟨n5, g5⟩⟩ := zN k hlt; clear zN zB))
        go_wp2
        go_roundw
        case rel =>
          refine ⟨k + 1, by go_num, by omega, putF f k (init W k), hidIt ⟨GL.out.put k (init W k), fun j hj => ?_⟩⟩
          by_cases ej : j = k
          · simp [putF, ej]
          · simp only [putF, ej, if_false]; exact G.out.2 j (by omega)
        case measure => simp [intOf]; omega
      · go_wp2
        go_meet
        case rel => exact hidIt ⟨f, G.out.1, fun j hj => G.out.2 j (by omega)⟩
  case rest =>
  obtain ⟨f, H1⟩ : ∃ f, Hid (OS w wc N P n T value f ∧ ∀ j, j < T → f j = init W j) := hcut.out
  clear hcut H0
  obtain ⟨w1, rfl⟩ : ∃ w1, w1 = wc := ⟨_, rfl⟩
  obtain ⟨⟨⟨y0, -⟩, ⟨yv, -⟩, -⟩, ⟨-, ⟨y1, -⟩, -⟩, -, hBw, hsz⟩ := H1.out.1
  have yN := bcell hBw hN cN0
  have hNr : N < w1.heap.size := by omega
  clear hBw
  have hNe : ¬ w.heap.size + 1 = N := by omega
  have hNe' : ¬ N = w.heap.size + 1 := by omega
  have hT1 : 0 < T := by
    have := HT.out
    have h1 : 0 < W * H := Int.mul_pos (by omega) (by omega)
    omega
  have i1 : (0 : Int) < (T : Int) := by omega
  go_upto_region 7 with fail
  go_cut [] (fun w2 => Hid (OS w w2 N P n T value (fin W value X Y 0)))
  case first =>
    go_region_held3 (fun w' => w'.cell? ⟨w.heap.size, 0, none⟩ = some (.pointer (some ⟨N, 0, none⟩)) ∧ w'.cell? ⟨w.heap.size, 2, none⟩ = some (.int .i64 value) ∧ w'.cell? ⟨w.heap.size + 1 + 1, 1, none⟩ = some (.slice (some ⟨w.heap.size + 1, 0, none⟩) T T) ∧ w'.cell? ⟨N, 0, none⟩ = some (.int .i64 W)) (go_keep)
      (first | (go_at_call 16; refine (point_any N W 0 hW hW2 (by omega) (by omega) _ ?_ ?_).mono ?_; (simp [*]); (simp [*]); rintro e w' ⟨rfl, hb⟩; have GL := hidIt (H1.out.1.laterD hb); obtain ⟨⟨⟨z0, -⟩, ⟨zv, -⟩, -⟩, ⟨-, ⟨z1, -⟩, -⟩, zN, zB, -⟩ := GL.out; have zNN := bcell zB hN cN0; obtain ⟨⟨n0, g0⟩, ⟨n1, g1⟩, ⟨n2, g2⟩, ⟨n3, g3⟩, ⟨n4, g4⟩, ⟨n5, g5⟩⟩ := zN 0 hT1; clear zN zB))
    go_wp2_with fail
    go_meet
    case rel =>
      have H2 : Hid (OS w (putNode w' (w.heap.size + 1) 0 ⟨0, 0, source, true, value⟩) N P n T value (fin W value X Y 0)) := by
        refine hidIt ((GL.out.put 0 ⟨0, 0, source, true, value⟩).congr (fun i hi => ?_))
        show putF f 0 ⟨0, 0, source, true, value⟩ i = base W value i
        by_cases e : i = 0
        · simp [putF, base, e]
        · simp only [putF, base, e, if_false]; exact H1.out.2 i hi
      exact H2
  case rest =>
  have H2 := hcut
  clear hcut H1 y0 yv y1 yN hsz hNr
  obtain ⟨w2, rfl⟩ : ∃ w2, w2 = wc := ⟨_, rfl⟩
  obtain ⟨⟨-, -, ⟨q3, -⟩⟩, -⟩ := H2.out
  go_wp2
  go_loopw [6, 49] (fun _ x wr => ∃ k : Nat, x = .int .i64 k ∧ k ≤ n ∧ Hid (OS w wr N P n T value (fin W value X Y k))) (fun _ x _ => n - (intOf x).toNat)
  case atStart => exact ⟨0, rfl, by omega, H2⟩
  case round =>
    clear q3 H2
    obtain ⟨k, rfl, hk, G⟩ := hrel
    by_cases hlt : k < n
    · obtain ⟨⟨⟨y0, -⟩, -, -⟩, ⟨-, ⟨y1, -⟩, -⟩, -, hBw, hsz⟩ := G.out
      have yN := bcell hBw hN cN0
      have hNr : N < wr.heap.size := by omega
      obtain ⟨⟨p0, -⟩, ⟨p1, -⟩⟩ := Hpts.out k hlt
      have r0 := bcell hBw hP p0
      have r1 := bcell hBw hP p1
      obtain ⟨x1, x2, x3, x4⟩ := HXY.out k hlt
      obtain ⟨d1, d2⟩ := idx_eq W H X Y T k HT.out x1 x2 x3 x4
      have D1 := hidIt d1
      clear hBw p0 p1 d1
      have i0 : (0 : Int) ≤ (k : Int) := by omega
      have i1 : (k : Int) < (n : Int) := by omega
      have i2 : (idx W X Y k : Int) < (T : Int) := by omega
      have G1 := hidIt (G.out.later (w' := wr.alloc (.cells #[.int .i64 (X k), .int .i64 (Y k)] 51)) ((Below.refl _ _).alloc (Nat.le_refl _) _))
      have hne0 : ¬ w.heap.size + 1 = wr.heap.size := by omega
      have hne1 : ¬ wr.heap.size = w.heap.size + 1 := by omega
      go_wp2
      go_region_held3 (fun w' => w'.cell? ⟨w.heap.size, 0, none⟩ = some (.pointer (some ⟨N, 0, none⟩)) ∧ w'.cell? ⟨w.heap.size + 1 + 1, 1, none⟩ = some (.slice (some ⟨w.heap.size + 1, 0, none⟩) T T) ∧ w'.cell? ⟨N, 0, none⟩ = some (.int .i64 W) ∧ w'.cell? ⟨wr.heap.size, 0, none⟩ = some (.int .i64 (X k)) ∧ w'.cell? ⟨wr.heap.size, 1, none⟩ = some (.int .i64 (Y k))) (go_keep)
        (first | (go_at_call 17; refine (node_any N W (X k) (Y k) hW hW2 x1 (by omega) x3 (by omega) _ ?_ ?_).mono ?_; (simp [*]; try omega); (simp [*]); rintro e w' ⟨rfl, hb⟩; rw [D1.out]; have GL := hidIt (G1.out.laterD hb); obtain ⟨⟨⟨z0, -⟩, -, -⟩, ⟨-, ⟨z1, -⟩, -⟩, zN, zB, -⟩ := GL.out; have zNN := bcell zB hN cN0; obtain ⟨-, -, ⟨n2, g2⟩, -⟩ := zN (idx W X Y k) d2; have zp0 := bcell (b := wr.heap.size) (o := 0) (v := .int .i64 (X k)) hb (by simp) (by simp); have zp1 := bcell (b := wr.heap.size) (o := 1) (v := .int .i64 (Y k)) hb (by simp) (by simp); clear zN zB))
      go_wp2
      go_roundw
      case rel => exact ⟨k + 1, by go_num, by omega, hidIt (GL.out.role (idx W X Y k) faulty)⟩
      case measure => simp [intOf]; omega
    · go_wp2
      go_ret
      obtain rfl : k = n := by omega
      exact ⟨rfl, G.out⟩
end Go.Proofs.Ybulkdqug.K
