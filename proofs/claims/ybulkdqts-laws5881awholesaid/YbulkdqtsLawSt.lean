/-
  LawS5881AWhole: the walk where bytes wait and the connection is stopped.
-/
import Derived.Test.YbulkdqtsState
import Derived.Deep.DeepCutAuto
import Derived.Deep.CutBlock
import Derived.Deep.RegionHeld3
namespace Go.Proofs.Ybulkdqts.E
open Go.Conc Go.RowKit Go.MuLone
set_option linter.unusedVariables false
set_option maxHeartbeats 1600000 in
set_option maxRecDepth 100000 in
theorem law_pos_st (ao : Option Addr) (len cap b off : Nat) (z : Nat → Int) (a1 a2 : Int) (a4 a5 : Bool) (w : World) (n : Nat) (hlen : len ≤ 1048576) (hn : (len : Int) + a1 % 9000 = n) (hn0 : 0 < n)
    (p1 : 0 ≤ a1) (p1' : a1 ≤ 65535) (p2 : -9223372036854775808 ≤ a2) (p2' : a2 ≤ 9223372036854775807)
    (hidx : ∀ i : Nat, i < len → ∀ w : World, (Instr.indexAt 22 (.slice ao len cap) (.int .i64 i)).run Yba.prog w = .ok (.pointer (some ⟨b, off + i, none⟩)) w)
    (hcell : ∀ i, i < len → w.cell? ⟨b, off + i, none⟩ = some (.int .u8 (z i))) (hb : 0 < len → b < w.heap.size) :
    Calls Yba.prog 3 #[.slice ao len cap, .int .u16 a1, .int .i64 a2, .bool true, .bool a4, .bool a5] w fun e w' => e = .returned (.bool true) ∧ Below w.heap.size w w' := by
  have hnb : n ≤ 1057576 := by omega
  have Hn := hidIt hn
  have Hcell := hidIt hcell
  have Hidx := hidIt hidx
  have hmk := make_run n (by omega)
  have hg : (0 : Int) < (len : Int) + a1 % 9000 := by omega
  clear hn hcell hidx
  go_enter Yba.func3, Yba.ntmps3
  go_upto_if 36 with (fail)
  rw [Hn.out]
  go_cut [14, 15] (fun x _ w1 => x = .slice (some ⟨w.heap.size, 0, none⟩) n n ∧ Hid (S1 w w1 n (bA len z)))
  case first =>
    as_aux_lemma =>
    have hg' : (0 : Int) < (n : Int) := by omega
    go_wp2
    go_loopw [15] (fun x wr => ∃ k : Nat, x = .int .i64 k ∧ k ≤ n ∧ ∃ g, Hid (S1 w wr n g ∧ ∀ j, j < k → g j = bA len z j)) (fun x _ => n - (intOf x).toNat)
    case atStart => exact ⟨0, rfl, by omega, fun _ => 0, hidIt ⟨S1.start w n, fun j hj => absurd hj (by omega)⟩⟩
    case round =>
      obtain ⟨k, rfl, hk, g, G⟩ := hrel
      by_cases hlt : k < n
      · obtain ⟨ck, fk⟩ := G.out.1.1 k hlt
        go_wp2_with (go_at_call 4; refine (byte_any ao len cap b off z k _ rfl (by omega) _ (fun h => Hidx.out k h) (fun h => bcell G.out.1.2.2 (hb (by omega)) (Hcell.out k h))).mono ?_; rintro e w' ⟨rfl, rfl⟩)
        go_roundw
        case rel =>
          refine ⟨k + 1, by go_num, by omega, put g k (bA len z k), hidIt ⟨G.out.1.set k _, fun j hj => ?_⟩⟩
          by_cases ej : j = k
          · simp [put, ej]
          · simp only [put, ej, if_false]; exact G.out.2 j (by omega)
        case measure => simp [intOf]; omega
      · go_wp2
        go_meet
        case rel => exact ⟨rfl, hidIt ⟨fun i hi => by have := G.out.1.1 i hi; rw [G.out.2 i (by omega)] at this; exact this, G.out.1.2⟩⟩
  case rest =>
  obtain ⟨rfl, H1⟩ := hcut
  obtain ⟨w1, rfl⟩ : ∃ w1, w1 = wc := ⟨_, rfl⟩
  have hmc := chan_run
  go_upto_if 72 with (fail)
  go_cut [17] (fun y w2 => ∃ ch : Option Nat, y = .chan ch ∧ ch.isSome = a5 ∧ Hid (S2 w w2 n (bA len z) ch))
  case first =>
    as_aux_lemma =>
    cases a5
    · go_wp2
      go_meet
      case rel => exact ⟨none, rfl, rfl, hidIt (S2.none H1.out)⟩
    · go_wp2
      go_meet
      case rel => exact ⟨some w1.heap.size, rfl, rfl, hidIt (S2.some H1.out)⟩
  case rest =>
  obtain ⟨ch, rfl, ha5, H2⟩ := hcut
  obtain ⟨w2, rfl⟩ : ∃ w2, w2 = wc := ⟨_, rfl⟩
  go_wp2_with fail
  refine (next_st_some w2.heap.size w.heap.size 0 n n a4 ch a2 _ hn0 (Nat.le_refl _) (by omega) (by exact conn_new w2 _ a4 ch true)).mono ?_
  rintro e w3 ⟨rfl, c1, k1⟩
  have H3 := hidIt (show S3 w w3 n (bA len z) w2.heap.size (.slice (some ⟨w.heap.size, 0, none⟩) n n) a4 ch true ch false from ⟨c1, (H2.out.after (.inr rfl) k1).1, (H2.out.after (.inr rfl) k1).2, H2.out.chan k1⟩)
  clear k1 c1 hmc hmk
  obtain ⟨m, hm, hm1, hm2, hm3⟩ : ∃ m, min n 4096 = m ∧ 0 < m ∧ m ≤ n ∧ (n ≤ 4096 ∧ m = n ∨ 4096 < n ∧ m = 4096) := ⟨min n 4096, rfl, by omega, by omega, by omega⟩
  rw [hm]
  clear hm
  have Hm3 := hidIt hm3
  clear hm3
  obtain ⟨C, hC⟩ : ∃ C, C = w2.heap.size := ⟨_, rfl⟩
  rw [← hC] at H3 ⊢
  clear hC H1 H2 Hn
  obtain ⟨⟨c0, f0⟩, ⟨c1, f1⟩, ⟨c2, f2⟩, -, -, -, -, ⟨c8, f8⟩⟩ := H3.out.1
  clear f0 f1 f2 f8
  have hni := neq_iface
  go_upto_block 2 with fail
  clear c0 c1 c2 c8 hni
  go_cut [21] (fun _ w4 => Hid (S3 w w4 n (bA len z) C (.slice (some ⟨w.heap.size, 0, none⟩) n n) a4 ch true ch false))
  case first =>
    as_aux_lemma =>
    go_wp2
    go_loopw [21] (fun x wr => ∃ j : Nat, x = .int .i64 j ∧ j ≤ n ∧ Hid (S3 w wr n (bA len z) C (.slice (some ⟨w.heap.size, 0, none⟩) n n) a4 ch true ch false)) (fun x _ => n - (intOf x).toNat)
    case atStart => exact ⟨0, rfl, by omega, H3⟩
    case round =>
      obtain ⟨j, rfl, hj, G⟩ := hrel
      by_cases hlt : j < n
      · obtain ⟨ck, fk⟩ := G.out.2.1 j hlt
        have i0 : (0 : Int) ≤ (j : Int) := by omega
        have i1 : (j : Int) < (n : Int) := by omega
        go_wp2
        go_quiet ((go_at_call 4; exact Calls.quiet_of_same (byte_any ao len cap b off z j _ rfl (by omega) _ (fun h => Hidx.out j h) (fun h => bcell G.out.2.2.1 (hb (by omega)) (Hcell.out j h)))))
        go_wp2
        go_roundw
        case rel => exact ⟨j + 1, by go_num, by omega, hidIt (G.out.drewN nq)⟩
        case measure => simp [intOf]; omega
      · go_wp2
        go_meet
        case rel => exact G
  case rest =>
  have H4 := hcut
  clear hcut H3
  obtain ⟨w4, rfl⟩ : ∃ w4, w4 = wc := ⟨_, rfl⟩
  obtain ⟨-, -, -, -, ⟨c5, f5⟩, ⟨c6, f6⟩, ⟨c7, f7⟩, -⟩ := H4.out.1
  clear f5 f6 f7
  have hnc := neq_chan ch
  have hd0 : ((n : Int) == 0) = false := by simp; omega
  go_upto_if 180 with (go_at_call 6; refine (closed_any ch false _ H4.out.2.2.2).mono ?_; rintro e w5 ⟨rfl, hw5⟩; subst w5)
  clear hnc c7 hd0
  go_cut [24] (fun x w5 => x = .int .i64 m ∧ w5 = w4)
  case first =>
    as_aux_lemma =>
    rcases Hm3.out with ⟨g1, g2⟩ | ⟨g1, g2⟩
    · have hd : decide ((4096 : Int) < (n : Int)) = false := by simp; omega
      go_wp2
      go_meet
      case rel => exact ⟨by rw [g2], rfl⟩
    · have hd : decide ((4096 : Int) < (n : Int)) = true := by simp; omega
      go_wp2
      go_meet
      case rel => exact ⟨by rw [g2]; rfl, rfl⟩
  case rest =>
  obtain ⟨rfl, hwc⟩ := hcut
  subst wc
  have hnp := neq_ptr
  have i0 : (0 : Int) < (m : Int) := by omega
  have i1 : (0 : Int) < (n : Int) := by omega
  go_wp2
  clear c6
  go_quiet (fail)
  clear c5 hnp
  go_wp2
  go_loopw [25] (fun x wr => ∃ j : Nat, x = .int .i64 j ∧ j ≤ m ∧ Hid (S3 w wr n (bA len z) C (.slice (some ⟨w.heap.size, 0, none⟩) n n) a4 ch true ch false)) (fun x _ => m - (intOf x).toNat)
  case atStart => exact ⟨0, rfl, by omega, hidIt (H4.out.drewN _)⟩
  case round =>
    obtain ⟨j, rfl, hj, G⟩ := hrel
    by_cases hlt : j < m
    · obtain ⟨ck, fk⟩ := G.out.2.1 (0 + j) (by omega)
      rw [Nat.zero_add] at ck
      have i2 : (0 : Int) ≤ (j : Int) := by omega
      have i3 : (j : Int) < (m : Int) := by omega
      go_wp2
      go_quiet ((go_at_call 4; exact Calls.quiet_of_same (byte_any ao len cap b off z (0 + j) _ (by simp) (by omega) _ (fun h => Hidx.out (0 + j) h) (fun h => bcell G.out.2.2.1 (hb (by omega)) (Hcell.out (0 + j) h)))))
      go_wp2
      go_roundw
      case rel => exact ⟨j + 1, by go_num, by omega, hidIt (G.out.drewN nq)⟩
      case measure => simp [intOf]; omega
    · go_wp2
      go_ret
      exact ⟨rfl, G.out.2.2.1⟩
end Go.Proofs.Ybulkdqts.E
