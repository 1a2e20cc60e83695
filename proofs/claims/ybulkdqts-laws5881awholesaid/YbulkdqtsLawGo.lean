/-
  LawS5881AWhole: the walk where bytes wait and the connection is not stopped.
-/
import Derived.Test.YbulkdqtsState
import Derived.Deep.DeepCutAuto
import Derived.Deep.CutBlock
import Derived.Deep.RegionHeld3
namespace Go.Proofs.Ybulkdqts.E
open Go.Conc Go.RowKit Go.MuLone
set_option linter.unusedVariables false
set_option maxHeartbeats 1600000 in
set_option maxRecDepth 100000 in
theorem law_pos_go (ao : Option Addr) (len cap b off : Nat) (z : Nat → Int) (a1 a2 : Int) (a4 a5 : Bool) (w : World) (n : Nat) (hlen : len ≤ 1048576) (hn : (len : Int) + a1 % 9000 = n) (hn0 : 0 < n)
    (p1 : 0 ≤ a1) (p1' : a1 ≤ 65535) (p2 : -9223372036854775808 ≤ a2) (p2' : a2 ≤ 9223372036854775807)
    (hidx : ∀ i : Nat, i < len → ∀ w : World, (Instr.indexAt 22 (.slice ao len cap) (.int .i64 i)).run Yba.prog w = .ok (.pointer (some ⟨b, off + i, none⟩)) w)
    (hcell : ∀ i, i < len → w.cell? ⟨b, off + i, none⟩ = some (.int .u8 (z i))) (hb : 0 < len → b < w.heap.size) :
    Calls Yba.prog 3 #[.slice ao len cap, .int .u16 a1, .int .i64 a2, .bool false, .bool a4, .bool a5] w fun e w' => e = .returned (.bool true) ∧ Below w.heap.size w w' := by
  have hnb : n ≤ 1057576 := by omega
  have Hn := hidIt hn
  have Hcell := hidIt hcell
  have Hidx := hidIt hidx
  have hmk := make_run n (by omega)
  have hg : (0 : Int) < (len : Int) + a1 % 9000 := by omega
  clear hn hcell hidx
  go_enter Yba.func3, Yba.ntmps3
  go_upto_if 36 with (fail)
  rw [Hn.out]
  go_cut [14, 15] (fun x _ w1 => x = .slice (some ⟨w.heap.size, 0, none⟩) n n ∧ Hid (S1 w w1 n (bA len z)))
  case first =>
    as_aux_lemma =>
    have hg' : (0 : Int) < (n : Int) := by omega
    go_wp2
    go_loopw [15] (fun x wr => ∃ k : Nat, x = .int .i64 k ∧ k ≤ n ∧ ∃ g, Hid (S1 w wr n g ∧ ∀ j, j < k → g j = bA len z j)) (fun x _ => n - (intOf x).toNat)
    case atStart => exact ⟨0, rfl, by omega, fun _ => 0, hidIt ⟨S1.start w n, fun j hj => absurd hj (by omega)⟩⟩
    case round =>
      obtain ⟨k, rfl, hk, g, G⟩ := hrel
      by_cases hlt : k < n
      · obtain ⟨ck, fk⟩ := G.out.1.1 k hlt
        go_wp2_with (go_at_call 4; refine (byte_any ao len cap b off z k _ rfl (by omega) _ (fun h => Hidx.out k h) (fun h => bcell G.out.1.2.2 (hb (by omega)) (Hcell.out k h))).mono ?_; rintro e w' ⟨rfl, rfl⟩)
        go_roundw
        case rel =>
          refine ⟨k + 1, by go_num, by omega, put g k (bA len z k), hidIt ⟨G.out.1.set k _, fun j hj => ?_⟩⟩
          by_cases ej : j = k
          · simp [put, ej]
          · simp only [put, ej, if_false]; exact G.out.2 j (by omega)
        case measure => simp [intOf]; omega
      · go_wp2
        go_meet
        case rel => exact ⟨rfl, hidIt ⟨fun i hi => by have := G.out.1.1 i hi; rw [G.out.2 i (by omega)] at this; exact this, G.out.1.2⟩⟩
  case rest =>
  obtain ⟨rfl, H1⟩ := hcut
  obtain ⟨w1, rfl⟩ : ∃ w1, w1 = wc := ⟨_, rfl⟩
  have hmc := chan_run
  go_upto_region 14 with (fail)
  go_cut [64] (fun y w2 => y = .bool (decide (a2 < 0 ∨ (n : Int) < a2)) ∧ w2 = w1)
  case first =>
    as_aux_lemma =>
    by_cases hneg : a2 < 0
    · have hd : decide (a2 < 0) = true := by simpa using hneg
      go_wp2
      go_meet
      case rel => exact ⟨by simp [hneg], rfl⟩
    · have hd : decide (a2 < 0) = false := by simpa using hneg
      go_wp2
      go_meet
      case rel => exact ⟨by simp; omega, rfl⟩
  case rest =>
  obtain ⟨rfl, hwc⟩ := hcut
  subst wc
  go_upto_if 64 with (fail)
  go_cut [16] (fun x w2 => ∃ k : Nat, x = .int .i64 k ∧ k ≤ n ∧ w2 = w1)
  case first =>
    as_aux_lemma =>
    by_cases hneg : a2 < 0 ∨ (n : Int) < a2
    · have hd : decide (a2 < 0 ∨ (n : Int) < a2) = true := by simpa using hneg
      go_wp2
      go_meet
      case rel =>
        obtain ⟨k, e1, e2⟩ := mod_ok a2 n (by omega)
        exact ⟨k, e1, e2, rfl⟩
    · have hd : decide (a2 < 0 ∨ (n : Int) < a2) = false := by simpa using hneg
      have g1 : 0 ≤ a2 := by omega
      have g2 : a2 ≤ n := by omega
      go_wp2
      go_meet
      case rel => exact ⟨a2.toNat, by go_num, by omega, rfl⟩
  case rest =>
  obtain ⟨k, rfl, hk, hwc⟩ := hcut
  subst wc
  go_upto_if 72 with (fail)
  go_cut [17] (fun y w2 => ∃ ch : Option Nat, y = .chan ch ∧ ch.isSome = a5 ∧ Hid (S2 w w2 n (bA len z) ch))
  case first =>
    as_aux_lemma =>
    cases a5
    · go_wp2
      go_meet
      case rel => exact ⟨none, rfl, rfl, hidIt (S2.none H1.out)⟩
    · go_wp2
      go_meet
      case rel => exact ⟨some w1.heap.size, rfl, rfl, hidIt (S2.some H1.out)⟩
  case rest =>
  obtain ⟨ch, rfl, ha5, H2⟩ := hcut
  obtain ⟨w2, rfl⟩ : ∃ w2, w2 = wc := ⟨_, rfl⟩
  go_wp2_with fail
  by_cases hkn : k = n
  · as_aux_lemma =>
    refine (next_go_zero w2.heap.size _ (some ⟨w.heap.size, 0, none⟩) 0 a4 ch (k : Int) _ (by exact conn_new w2 _ a4 ch false) ⟨_, _, _, rfl⟩ (fun W => by rw [slice_run _ n k hk W, if_pos hkn.symm, show n - k = 0 from by omega]) (H2.out.free _)).mono ?_
    rintro e w3 ⟨rfl, c1, k1, k4⟩
    have H3 := hidIt (show S3 w w3 n (bA len z) w2.heap.size (.slice none 0 0) false none false ch true from ⟨c1, (H2.out.after (.inl rfl) k1).1, (H2.out.after (.inl rfl) k1).2, k4⟩)
    clear k1 c1 k4 hmc hmk
    have Hkn : Hid (k = n) := hidIt hkn
    clear hkn
    obtain ⟨C, hC⟩ : ∃ C, C = w2.heap.size := ⟨_, rfl⟩
    rw [← hC] at H3 ⊢
    clear hC H1 H2 Hn
    obtain ⟨⟨c0, f0⟩, ⟨c1, f1⟩, ⟨c2, f2⟩, -, -, -, -, ⟨c8, f8⟩⟩ := H3.out.1
    clear f0 f1 f2 f8
    have hni := neq_iface
    go_upto_block 2 with fail
    clear c0 c1 c2 c8 hni
    go_cut [21] (fun _ w4 => Hid (S3 w w4 n (bA len z) C (.slice none 0 0) false none false ch true))
    case first =>
      as_aux_lemma =>
      go_wp2
      go_loopw [21] (fun x wr => ∃ j : Nat, x = .int .i64 j ∧ j ≤ n ∧ Hid (S3 w wr n (bA len z) C (.slice none 0 0) false none false ch true)) (fun x _ => n - (intOf x).toNat)
      case atStart => exact ⟨0, rfl, by omega, H3⟩
      case round =>
        obtain ⟨j, rfl, hj, G⟩ := hrel
        by_cases hlt : j < n
        · obtain ⟨ck, fk⟩ := G.out.2.1 j hlt
          have i0 : (0 : Int) ≤ (j : Int) := by omega
          have i1 : (j : Int) < (n : Int) := by omega
          go_wp2
          go_quiet ((go_at_call 4; exact Calls.quiet_of_same (byte_any ao len cap b off z j _ rfl (by omega) _ (fun h => Hidx.out j h) (fun h => bcell G.out.2.2.1 (hb (by omega)) (Hcell.out j h)))))
          go_wp2
          go_roundw
          case rel => exact ⟨j + 1, by go_num, by omega, hidIt (G.out.drewN nq)⟩
          case measure => simp [intOf]; omega
        · go_wp2
          go_meet
          case rel => exact G
    case rest =>
    have H4 := hcut
    clear hcut H3
    obtain ⟨w4, rfl⟩ : ∃ w4, w4 = wc := ⟨_, rfl⟩
    obtain ⟨-, -, -, -, ⟨c5, f5⟩, ⟨c6, f6⟩, ⟨c7, f7⟩, -⟩ := H4.out.1
    clear f5 f6 f7
    have hnn := neq_none
    go_upto_region 37 with (fail)
    clear hnn c7
    go_cut [152] (fun y w5 => y = .bool false ∧ w5 = w4)
    case first =>
      as_aux_lemma =>
      cases a5
      · go_wp2
        go_meet
        case rel => exact ⟨rfl, rfl⟩
      · go_wp2_with (go_at_call 6; refine (closed_any ch true _ H4.out.2.2.2).mono ?_; rintro e w5 ⟨rfl, hw5⟩; subst w5)
        go_meet
        case rel => exact ⟨rfl, rfl⟩
    case rest =>
    obtain ⟨rfl, hwc⟩ := hcut
    subst wc
    have hen : ∀ W : World, (binOp .eql 22 (.slice none 0 0) (.slice none 0 0)).run Yba.prog W = .ok (.bool true) W := fun W => by kernel_rfl
    have hkn : (n : Int) - k = 0 := by have := Hkn.out; omega
    go_wp2
    go_ret
    exact ⟨rfl, H4.out.2.2.1⟩
  · as_aux_lemma =>
    obtain ⟨r, hr, hr0⟩ : ∃ r, n - k = r ∧ 0 < r := ⟨n - k, rfl, by omega⟩
    have hrn : (n : Int) - k = r := by omega
    refine (next_go_some w2.heap.size w.heap.size k r r _ a4 ch (k : Int) _ hr0 (Nat.le_refl _) (by omega) (by exact conn_new w2 _ a4 ch false) ⟨_, _, _, rfl⟩ (fun W => by rw [slice_run _ n k hk W, if_neg (fun e => hkn e.symm), hr]) (H2.out.free _)).mono ?_
    rintro e w3 ⟨rfl, c1, k1, k4⟩
    have H3 := hidIt (show S3 w w3 n (bA len z) w2.heap.size (.slice (some ⟨w.heap.size, k, none⟩) r r) a4 none false ch true from ⟨c1, (H2.out.after (.inl rfl) k1).1, (H2.out.after (.inl rfl) k1).2, k4⟩)
    clear k1 c1 k4 hmc hmk
    obtain ⟨m, hm, hm1, hm2, hm3⟩ : ∃ m, min r 4096 = m ∧ 0 < m ∧ m ≤ r ∧ (r ≤ 4096 ∧ m = r ∨ 4096 < r ∧ m = 4096) := ⟨min r 4096, rfl, by omega, by omega, by omega⟩
    rw [hm]
    clear hm
    have Hm3 := hidIt hm3
    have hr' : k + r ≤ n := by omega
    clear hm3 hr
    obtain ⟨C, hC⟩ : ∃ C, C = w2.heap.size := ⟨_, rfl⟩
    rw [← hC] at H3 ⊢
    clear hC H1 H2 Hn
    obtain ⟨⟨c0, f0⟩, ⟨c1, f1⟩, ⟨c2, f2⟩, -, -, -, -, ⟨c8, f8⟩⟩ := H3.out.1
    clear f0 f1 f2 f8
    have hni := neq_iface
    go_upto_block 2 with fail
    clear c0 c1 c2 c8 hni
    go_cut [21] (fun _ w4 => Hid (S3 w w4 n (bA len z) C (.slice (some ⟨w.heap.size, k, none⟩) r r) a4 none false ch true))
    case first =>
      as_aux_lemma =>
      go_wp2
      go_loopw [21] (fun x wr => ∃ j : Nat, x = .int .i64 j ∧ j ≤ n ∧ Hid (S3 w wr n (bA len z) C (.slice (some ⟨w.heap.size, k, none⟩) r r) a4 none false ch true)) (fun x _ => n - (intOf x).toNat)
      case atStart => exact ⟨0, rfl, by omega, H3⟩
      case round =>
        obtain ⟨j, rfl, hj, G⟩ := hrel
        by_cases hlt : j < n
        · obtain ⟨ck, fk⟩ := G.out.2.1 j hlt
          have i0 : (0 : Int) ≤ (j : Int) := by omega
          have i1 : (j : Int) < (n : Int) := by omega
          go_wp2
          go_quiet ((go_at_call 4; exact Calls.quiet_of_same (byte_any ao len cap b off z j _ rfl (by omega) _ (fun h => Hidx.out j h) (fun h => bcell G.out.2.2.1 (hb (by omega)) (Hcell.out j h)))))
          go_wp2
          go_roundw
          case rel => exact ⟨j + 1, by go_num, by omega, hidIt (G.out.drewN nq)⟩
          case measure => simp [intOf]; omega
        · go_wp2
          go_meet
          case rel => exact G
    case rest =>
    have H4 := hcut
    clear hcut H3
    obtain ⟨w4, rfl⟩ : ∃ w4, w4 = wc := ⟨_, rfl⟩
    obtain ⟨-, -, -, -, ⟨c5, f5⟩, ⟨c6, f6⟩, ⟨c7, f7⟩, -⟩ := H4.out.1
    clear f5 f6 f7
    have hnn := neq_none
    go_upto_region 37 with (fail)
    clear hnn c7
    go_cut [152] (fun y w5 => y = .bool false ∧ w5 = w4)
    case first =>
      as_aux_lemma =>
      cases a5
      · go_wp2
        go_meet
        case rel => exact ⟨rfl, rfl⟩
      · go_wp2_with (go_at_call 6; refine (closed_any ch true _ H4.out.2.2.2).mono ?_; rintro e w5 ⟨rfl, hw5⟩; subst w5)
        go_meet
        case rel => exact ⟨rfl, rfl⟩
    case rest =>
    obtain ⟨rfl, hwc⟩ := hcut
    subst wc
    have hd0 : ((r : Int) == 0) = false := by simp; omega
    go_upto_if 180 with (fail)
    clear hd0
    go_cut [24] (fun x w5 => x = .int .i64 m ∧ w5 = w4)
    case first =>
      as_aux_lemma =>
      rcases Hm3.out with ⟨g1, g2⟩ | ⟨g1, g2⟩
      · have hd : decide ((4096 : Int) < (r : Int)) = false := by simp; omega
        go_wp2
        go_meet
        case rel => exact ⟨by rw [g2], rfl⟩
      · have hd : decide ((4096 : Int) < (r : Int)) = true := by simp; omega
        go_wp2
        go_meet
        case rel => exact ⟨by rw [g2]; rfl, rfl⟩
    case rest =>
    obtain ⟨rfl, hwc⟩ := hcut
    subst wc
    have hnp := neq_ptr
    have i0 : (0 : Int) < (m : Int) := by omega
    have i1 : (0 : Int) < (r : Int) := by omega
    have i4 : (0 : Int) ≤ (k : Int) := by omega
    have i5 : (k : Int) < (n : Int) := by omega
    go_wp2
    clear c6
    go_quiet (fail)
    clear c5 hnp
    go_wp2
    go_loopw [25] (fun x wr => ∃ j : Nat, x = .int .i64 j ∧ j ≤ m ∧ Hid (S3 w wr n (bA len z) C (.slice (some ⟨w.heap.size, k, none⟩) r r) a4 none false ch true)) (fun x _ => m - (intOf x).toNat)
    case atStart => exact ⟨0, rfl, by omega, hidIt (H4.out.drewN _)⟩
    case round =>
      obtain ⟨j, rfl, hj, G⟩ := hrel
      by_cases hlt : j < m
      · obtain ⟨ck, fk⟩ := G.out.2.1 (k + j) (by omega)
        have i2 : (0 : Int) ≤ (j : Int) := by omega
        have i3 : (j : Int) < (m : Int) := by omega
        go_wp2
        go_quiet ((go_at_call 4; exact Calls.quiet_of_same (byte_any ao len cap b off z (k + j) _ (by simp) (by omega) _ (fun h => Hidx.out (k + j) h) (fun h => bcell G.out.2.2.1 (hb (by omega)) (Hcell.out (k + j) h)))))
        go_wp2
        go_roundw
        case rel => exact ⟨j + 1, by go_num, by omega, hidIt (G.out.drewN nq)⟩
        case measure => simp [intOf]; omega
      · go_wp2
        go_ret
        exact ⟨rfl, G.out.2.2.1⟩
end Go.Proofs.Ybulkdqts.E
