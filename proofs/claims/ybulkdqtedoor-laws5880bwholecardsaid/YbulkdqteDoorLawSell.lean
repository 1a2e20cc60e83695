/-
  LawS5880BWhole: the walk of the law, the side being not Buy.
-/
import Derived.Test.YbulkdqteDoorState
import Derived.Deep.DeepCutAuto
import Derived.Deep.CutBlock
namespace Go.Proofs.YbulkdqteDoor.B
open Go.ChangeShapes Go.WideShapes Go.ChangeAt Go.RowKit
set_option maxHeartbeats 1600000 in
set_option maxRecDepth 100000 in
theorem law_sell (a0 a1 a3 a4 : Int) (ao : Option Addr) (len cap b off : Nat) (z : Nat → Int) (w : World) (s : Int) (hs : a0 % 3 = s) (hs0 : (s == 0) = false)
    (p0 : 0 ≤ a0) (p0' : a0 ≤ 255) (p1 : 0 ≤ a1) (p1' : a1 ≤ 255) (p3 : 0 ≤ a3) (p3' : a3 ≤ 65535) (p4 : 0 ≤ a4) (p4' : a4 ≤ 65535) (hlen : len ≤ 9223372036854775807)
    (hz : ∀ i, i < len → 0 ≤ z i ∧ z i ≤ 255) (hidx : ∀ i : Nat, i < len → ∀ w : World, (Instr.indexAt 22 (.slice ao len cap) (.int .i64 i)).run Ybad.prog w = .ok (.pointer (some ⟨b, off + i, none⟩)) w)
    (hcell : ∀ i, i < len → w.cell? ⟨b, off + i, none⟩ = some (.int .u8 (z i))) (hb : 0 < len → b < w.heap.size) (hB : 0 < w.heap.size) (hp : w.cell? ⟨0, 0, none⟩ = some (.int .u64 1)) :
    Calls Ybad.prog 3 #[.int .u8 a0, .int .u8 a1, .slice ao len cap, .int .u16 a3, .int .u16 a4] w fun e w' => e = .returned (.bool true) ∧ Below w.heap.size w w' := by
  obtain ⟨lo, hlo, hlo1⟩ : ∃ lo : Nat, a1 % 65 = lo ∧ lo ≤ 64 := ⟨(a1 % 65).toNat, by omega, by omega⟩
  obtain ⟨hlo2, hlo3⟩ : a1 % 65 ≤ lo ∧ (lo : Int) ≤ a1 % 65 := ⟨by omega, by omega⟩
  have Hlo := hidIt hlo
  have Hs := hidIt hs
  have Hs0 := hidIt hs0
  have Hz := hidIt hz
  have Hcell := hidIt hcell
  have Hidx := hidIt hidx
  have hz26 := zero26
  clear hlo hs hs0 hz hcell hidx
  go_enter Ybad.func3, Ybad.ntmps3
  go_upto_if 38 with (fail)
  go_cut [13] (fun x wc => ∃ n : Nat, x = .int .i64 n ∧ n + lo ≤ 64 ∧ n ≤ len ∧ wc = w)
  case first =>
    by_cases hl : (len : Int) ≤ 64 - a1 % 65
    · go_wp2
      go_meet
      case rel => exact ⟨len, rfl, by omega, by omega, rfl⟩
    · go_wp2
      go_meet
      case rel => exact ⟨64 - lo, by go_num, by omega, by omega, rfl⟩
  case rest =>
  obtain ⟨n, rfl, hn1, hn2, hwc⟩ := hcut
  subst wc
  rw [Hlo.out, Hs.out]
  go_upto_block 0 with fail
  go_cut [16] (fun x w1 => ∃ g, Hid (S1 w w1 g ∧ ∀ j, j < 64 → g j = a4))
  case first =>
    go_wp2
    go_loopw [16] (fun x wr => ∃ k : Nat, x = .int .i64 k ∧ k ≤ 64 ∧ ∃ g, Hid (S1 w wr g ∧ ∀ j, j < k → g j = a4)) (fun x _ => 64 - (intOf x).toNat)
    case atStart => exact ⟨0, rfl, by omega, fun _ => 0, hidIt ⟨S1.start _, fun j h => absurd h (by omega)⟩⟩
    case round =>
      obtain ⟨k, rfl, hk, g, H⟩ := hrel
      by_cases hlt : k < 64
      · obtain ⟨ck, fk⟩ := H.out.1.1 k hlt
        go_wp2
        go_roundw
        case rel =>
          refine ⟨k + 1, by go_num, by omega, put g k a4, hidIt ⟨H.out.1.set k hlt a4, fun j hj => ?_⟩⟩
          by_cases e : j = k
          · simp [put, e]
          · simp only [put, e, if_false]; exact H.out.2 j (by omega)
        case measure => simp [intOf]; omega
      · go_wp2
        go_meet
        case rel => exact ⟨g, hidIt ⟨H.out.1, fun j hj => H.out.2 j (by omega)⟩⟩
  case rest =>
  obtain ⟨g0, H0⟩ := hcut
  obtain ⟨w1, rfl⟩ : ∃ w1, w1 = wc := ⟨_, rfl⟩
  go_upto_block 2 with fail
  go_cut [17, 18] (fun x y w2 => ∃ g, Hid (S1 w w2 g ∧ (∀ j, j < 64 → 0 ≤ g j ∧ g j ≤ 65535) ∧ (∀ j, j < n → g (lo + j) = (ps z (j + 1)))))
  case first =>
    go_wp2
    go_loopw [17, 18] (fun x y wr => ∃ k : Nat, x = .int .u64 (ps z k) ∧ y = .int .i64 k ∧ k ≤ n ∧ ∃ g, Hid (S1 w wr g ∧ (∀ j, j < 64 → 0 ≤ g j ∧ g j ≤ 65535) ∧ (∀ j, j < k → g (lo + j) = (ps z (j + 1))))) (fun _ y _ => n - (intOf y).toNat)
    case atStart => exact ⟨0, rfl, rfl, by omega, g0, hidIt ⟨H0.out.1, fun j hj => by rw [H0.out.2 j hj]; exact ⟨p4, p4'⟩, fun j hj => absurd hj (by omega)⟩⟩
    case round =>
      obtain ⟨k, rfl, rfl, hk, g, H⟩ := hrel
      by_cases hlt : k < n
      · obtain ⟨ck, fk⟩ := H.out.1.1 (lo + k) (by omega)
        have hix := Hidx.out k (by omega)
        have hck : wr.cell? ⟨b, off + k, none⟩ = some (.int .u8 (z k)) := by
          rw [(bcell H.out.1.2.2).1 _ _ (hb (by omega))]; exact Hcell.out k (by omega)
        obtain ⟨hz1, hz2⟩ := Hz.out k (by omega)
        obtain ⟨hps1, hps2⟩ := ps_bd z len Hz.out k (by omega)
        have hs0 := Hs0.out
        go_wp2
        go_roundw
        case rel =>
          refine ⟨k + 1, by go_num, by go_num, by omega, put g (lo + k) ((ps z k + z k)), hidIt ⟨H.out.1.set (lo + k) (by omega) _, fun j hj => ?_, fun j hj => ?_⟩⟩
          · by_cases e : j = lo + k
            · simp only [put, e, if_true]; omega
            · simp only [put, e, if_false]; exact H.out.2.1 j hj
          · by_cases e : j = k
            · subst e; simp [put, ps]
            · have e' : ¬ lo + j = lo + k := by omega
              simp only [put, e', if_false]; exact H.out.2.2 j (by omega)
        case measure => simp [intOf]; omega
      · go_wp2
        go_meet
        case rel =>
          obtain rfl : k = n := by omega
          exact ⟨g, H⟩
  case rest =>
  obtain ⟨g, H⟩ := hcut
  obtain ⟨w2, rfl⟩ : ∃ w2, w2 = wc := ⟨_, rfl⟩
  clear H0
  have hz41 := zero41
  obtain ⟨U, hU⟩ : ∃ U, U = w2.heap.size := ⟨_, rfl⟩
  have HU := hidIt hU
  clear hU
  have HP : Hid (Below w.heap.size w w2) := hidIt H.out.1.2.2
  go_upto_block 4 with fail
  rw [← HU.out]
  go_cut [20] (fun x w3 => Hid (S2 w w3 U g 0 0 g))
  case first =>
    go_wp2
    go_loopw [20] (fun x wr => ∃ k : Nat, x = .int .i64 k ∧ k ≤ 64 ∧ ∃ e, Hid (S2 w wr U g 0 0 e ∧ ∀ j, j < k → e j = g j)) (fun x _ => 64 - (intOf x).toNat)
    case atStart => exact ⟨0, rfl, by omega, fun _ => 0, hidIt ⟨by rw [HU.out]; exact S2.start H.out.1, fun j hj => absurd hj (by omega)⟩⟩
    case round =>
      obtain ⟨k, rfl, hk, e, G⟩ := hrel
      by_cases hlt : k < 64
      · obtain ⟨ck, fk⟩ := G.out.1.1 k hlt
        obtain ⟨hg1, hg2⟩ := H.out.2.1 k hlt
        have hpw : wr.cell? ⟨0, 0, none⟩ = some (.int .u64 1) := by
          rw [(bcell G.out.1.2.2.2.2).1 _ _ hB]; exact hp
        have hpz : 0 < wr.heap.size := by have := G.out.1.2.2.2.1; omega
        go_wp2_with (go_at_call 4; refine (amt_any (g k) hg1 hg2 _ hpz hpw).mono ?_; rintro e1 w' ⟨rfl, hbw⟩; have GL := hidIt (G.out.1.later hbw); clear hbw ck fk; obtain ⟨⟨x0, f0⟩, ⟨x1, f1⟩⟩ := GL.out.2.1.2.2 k hlt)
        go_roundw
        case rel =>
          refine ⟨k + 1, by go_num, by omega, put e k (g k), hidIt ⟨GL.out.set k hlt (g k), fun j hj => ?_⟩⟩
          by_cases ej : j = k
          · simp [put, ej]
          · simp only [put, ej, if_false]; exact G.out.2 j (by omega)
        case measure => simp [intOf]; omega
      · go_wp2
        go_meet
        case rel => exact hidIt (G.out.1.same (fun j hj => G.out.2 j (by omega)))
  case rest =>
  have H3 := hcut
  clear hcut
  obtain ⟨w3, rfl⟩ : ∃ w3, w3 = wc := ⟨_, rfl⟩
  obtain ⟨⟨x0, f0⟩, ⟨x1, f1⟩, -⟩ := H3.out.2.1
  obtain ⟨q, hq, hq0, hq1⟩ : ∃ q : Int, a3 % 16400 = q ∧ 0 ≤ q ∧ q ≤ 65535 := ⟨a3 % 16400, rfl, by omega, by omega⟩
  have Hq := hidIt hq
  clear hq
  go_wp2_with fail
  rw [Hq.out]
  have H4 := hidIt (S3.start H3.out (lo : Int) ((lo : Int) + n) s)
  refine (amt_any q hq0 hq1 _ (by exact H4.out.pos) (by exact H4.out.pow hB hp)).mono ?_
  rintro e4 w4 ⟨rfl, hb4⟩
  have H5 := hidIt (H4.out.later hb4)
  clear H4 hb4 H3 x0 f0 x1 f1
  obtain ⟨L, hL⟩ : ∃ L, L = w3.heap.size := ⟨_, rfl⟩
  rw [← hL] at H5 ⊢
  clear hL
  go_wp2_with fail
  have hmo : ∀ i j, lo ≤ i → i ≤ j → j < lo + n → decide (g j < q) = true → decide (g i < q) = true := by
    intro i j h1 h2 h3 h4
    have e1 := H.out.2.2 (i - lo) (by omega)
    have e2 := H.out.2.2 (j - lo) (by omega)
    rw [show lo + (i - lo) = i from by omega] at e1
    rw [show lo + (j - lo) = j from by omega] at e2
    have e3 := ps_mono z len Hz.out (i - lo + 1) (j - i) (by omega)
    rw [show i - lo + 1 + (j - i) = j - lo + 1 from by omega] at e3
    simp only [decide_eq_true_eq] at h4 ⊢
    omega
  refine (search_any L U lo (lo + n) s q g (fun x y => decide (x < y)) (better_said_sell L s Hs0.out) (by omega) (by omega) hmo _ (by exact H5.out.2.1.1) (by exact H5.out.2.2) (by exact H5.out.1.2.2.2.1) (by exact H5.out.1.2.1.1.1) (by rw [Int.natCast_add]; exact H5.out.1.2.1.2.1.1)
    (fun i hi => ⟨(H5.out.1.2.1.2.2 i hi).1.1, (H5.out.1.2.1.2.2 i hi).2.1⟩)).mono ?_
  rintro e5 w5 ⟨p, rfl, r1, r2, r3, r4, hb5⟩
  have H6 := hidIt (H5.out.later hb5)
  have R3 := hidIt r3
  have R4 := hidIt r4
  clear H5 hb5 r3 r4 hmo
  go_upto_block 6 with fail
  go_cut [24, 25, 26] (fun x _ _ w6 => x = .int .i64 p ∧ w6 = w5)
  case first =>
    go_wp2
    go_loop [24, 25, 26] (fun x y _ => ∃ k : Nat, x = .int .i64 ((lo : Int) + n) ∧ y = .int .i64 k ∧ lo ≤ k ∧ k ≤ lo + n ∧ Hid (∀ j, lo ≤ j → j < k → decide (g j < q) = true)) (fun _ y _ => lo + n - (intOf y).toNat)
    case atStart => exact ⟨lo, rfl, rfl, by omega, by omega, hidIt (fun j h1 h2 => absurd h1 (by omega))⟩
    case round =>
      obtain ⟨k, rfl, rfl, hk1, hk2, G⟩ := hrel
      by_cases hlt : k < lo + n
      · obtain ⟨ck, fk⟩ := H6.out.1.1 k (by omega)
        have hs0 := Hs0.out
        by_cases hbt : g k < q
        · go_wp2
          go_round
          case rel =>
            refine ⟨k + 1, rfl, by go_num, by omega, by omega, hidIt (fun j h1 h2 => ?_)⟩
            by_cases e : j = k
            · subst e; simpa using hbt
            · exact G.out j h1 (by omega)
          case measure => simp [intOf]; omega
        · have hbf : decide (g k < q) = false := by simpa using hbt
          have e : Hid (k = p) := by
            rcases Nat.lt_trichotomy k p with h | h | h
            · exact absurd (R3.out k (by omega) h) (by simpa using hbt)
            · exact hidIt h
            · have a1 := G.out p r1 h
              have a2 : decide (g p < q) = false := R4.out (by omega)
              rw [a1] at a2
              cases a2
          go_wp2
          go_meet
          case rel => exact ⟨by rw [e.out], rfl⟩
      · have e : Hid (p = lo + n) := by
          rcases Nat.lt_or_ge p (lo + n) with h | h
          · have a1 := G.out p r1 (by omega)
            have a2 : decide (g p < q) = false := R4.out h
            rw [a1] at a2
            cases a2
          · exact hidIt (by omega)
        go_wp2
        go_meet
        case rel => exact ⟨by rw [e.out]; go_num, rfl⟩
  case rest =>
  obtain ⟨rfl, hwc⟩ := hcut
  subst wc
  obtain ⟨⟨x0, f0⟩, ⟨x1, f1⟩, -⟩ := H6.out.1.2.1
  obtain ⟨xL, fL⟩ := H6.out.2.1
  go_wp2
  go_loopw [27] (fun x wr => ∃ k : Nat, x = .int .i64 k ∧ k ≤ 64 ∧ Hid (S3 w wr U L g lo ((lo : Int) + n) s)) (fun x _ => 64 - (intOf x).toNat)
  case atStart => exact ⟨0, rfl, by omega, H6⟩
  case round =>
    obtain ⟨k, rfl, hk, G⟩ := hrel
    clear x0 f0 x1 f1 xL fL H6
    by_cases hlt : k < 64
    · obtain ⟨ck, fk⟩ := G.out.1.1 k hlt
      obtain ⟨⟨x0, f0⟩, ⟨x1, f1⟩⟩ := G.out.1.2.1.2.2 k hlt
      obtain ⟨hg1, hg2⟩ := H.out.2.1 k hlt
      have hpw := G.out.pow hB hp
      have hpz := G.out.pos
      have i0 : (0 : Int) ≤ k := by omega
      have i1 : (k : Int) < 64 := by omega
      have hna := neq_am (g k)
      clear fk f0 f1
      go_wp2
      go_region_held3 (fun w' => w'.cell? ⟨w.heap.size, k, none⟩ = some (.int .u64 (g k)) ∧ w'.cell? ⟨U, 8 + k * 6, none⟩ = some (.int .u64 0) ∧ w'.cell? ⟨U, 8 + k * 6 + 1, none⟩ = some (.int .u64 (g k)) ∧ w'.cell? ⟨0, 0, none⟩ = some (.int .u64 1)) (go_keep)
          (first | (go_at_call 4; refine (amt_any (g k) hg1 hg2 _ ?_ ?_).mono ?_; (simp [*]); (simp [*]); rintro e w' ⟨rfl, hb⟩; have GL := hidIt (G.out.laterD hb); have y0 := (GL.out.1.1 k hlt).1; have y1 := (GL.out.1.2.1.2.2 k hlt).1.1; have y2 := (GL.out.1.2.1.2.2 k hlt).2.1; have y3 := GL.out.pow hB hp))
      go_wp2
      go_roundw
      case rel => exact ⟨k + 1, by go_num, by omega, GL⟩
      case measure => simp [intOf]; omega
    · go_wp2
      go_ret
      exact ⟨rfl, G.out.1.2.2.2.2⟩
end Go.Proofs.YbulkdqteDoor.B
