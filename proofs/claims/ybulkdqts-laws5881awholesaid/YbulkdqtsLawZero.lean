/-
  LawS5881AWhole: the walks where no byte waits.
-/
import Derived.Test.YbulkdqtsState
import Derived.Deep.DeepCutAuto
import Derived.Deep.CutBlock
namespace Go.Proofs.Ybulkdqts.E
open Go.Conc Go.RowKit Go.MuLone
set_option linter.unusedVariables false
theorem nil_neq (ao : Option Addr) (n cap : Nat) (W : World) : (binOp .neq 22 (.slice ao n cap) (.slice none 0 0)).run Yba.prog W = .ok (.bool ao.isSome) W := by
  cases ao
  · kernel_rfl
  · kernel_rfl
theorem slice_zero (ao : Option Addr) (W : World) : (Instr.slice 22 (.slice ao 0 0) (some (.int .i64 0)) none none).run Yba.prog W = .ok (.slice ao 0 0) W := by
  cases ao
  · simp [go_sem]
  · simp [go_sem]
theorem next_st_zero' (C : Nat) (ao : Option Addr) (n cap : Nat) (hn : n = 0) (wr : Bool) (ch : Option Nat) (x : Int) (w : World) (h : Conn w C 0 (.slice ao n cap) wr ch true) :
    Calls Yba.prog 5 #[.pointer (some ⟨C, 0, none⟩), .int .i64 x] w fun e w' => e = .returned (.tuple #[.slice none 0 0, .bool false]) ∧ Conn w' C 0 (.slice none 0 0) false ch true ∧ Kept (Mine C Option.none) w w' := by
  subst hn
  exact next_st_zero C ao cap wr ch x w h
/-- The world ahead of 'next' where no byte waits. -/
def S0 (w w2 : World) (ch : Option Nat) : Prop := Below w.heap.size w w2 ∧ ∀ r, ch = some r → w.heap.size ≤ r ∧ w2.heap[r]? = some (.chan 0 #[] false 0 0 false)
theorem S0.none {w w1 : World} (h : Below w.heap.size w w1) : S0 w w1 Option.none := ⟨h, fun r hr => by cases hr⟩
theorem S0.some {w w1 : World} (h : Below w.heap.size w w1) : S0 w (w1.alloc (.chan 0 #[] false 0 0 false)) (Option.some w1.heap.size) := by
  refine ⟨h.alloc h.size _, fun r hr => ?_⟩
  cases hr
  exact ⟨h.size, heap_alloc_new _ _⟩
theorem S0.lt {w w2 : World} {ch : Option Nat} (h : S0 w w2 ch) (r : Nat) (hr : ch = Option.some r) : r < w2.heap.size := by
  have h4 := (h.2 r hr).2
  rcases Nat.lt_or_ge r w2.heap.size with h | h
  · exact h
  · rw [Array.getElem?_eq_none h] at h4; cases h4
theorem S0.after {w w2 w3 : World} {ch ch' : Option Nat} {o : Obj} (h : S0 w w2 ch) (hch : ch' = ch ∨ ch' = Option.none) (k : Kept (Mine w2.heap.size ch') (w2.alloc o) w3) : Below w.heap.size w w3 := by
  have hz := h.1.size
  refine (h.1.alloc hz o).trans (k.below (fun b hb => ?_))
  rcases hb with rfl | hb
  · exact hz
  · rcases hch with rfl | rfl
    · exact (h.2 b hb).1
    · cases hb
theorem S0.chan {w w2 w3 : World} {ch : Option Nat} {o : Obj} (h : S0 w w2 ch) (k : Kept (Mine w2.heap.size Option.none) (w2.alloc o) w3) : ∀ r, ch = Option.some r → w3.heap[r]? = Option.some (.chan 0 #[] false 0 0 false) := by
  intro r hr
  have hlt := h.lt r hr
  have ha : Below w2.heap.size w2 (w2.alloc o) := (Below.refl _ _).alloc (Nat.le_refl _) _
  rw [k.block r (fun hm => hm.elim (fun e => by omega) (fun e => by cases e)), ha.block r hlt]
  exact (h.2 r hr).2
theorem S0.free {w w2 : World} {ch : Option Nat} (o : Obj) (h : S0 w w2 ch) : ∀ r, ch = Option.some r → w2.heap.size ≠ r ∧ (w2.alloc o).heap[r]? = Option.some (.chan 0 #[] false 0 0 false) := by
  intro r hr
  have hlt := h.lt r hr
  have ha : Below w2.heap.size w2 (w2.alloc o) := (Below.refl _ _).alloc (Nat.le_refl _) _
  exact ⟨by omega, (ha.block r hlt).trans (h.2 r hr).2⟩
set_option maxHeartbeats 1600000 in
set_option maxRecDepth 100000 in
theorem law_zero_st (ao : Option Addr) (len cap : Nat) (a1 a2 : Int) (a4 a5 : Bool) (w : World) (n : Nat) (hlen : len ≤ 0) (hn : (len : Int) + a1 % 9000 = n) (hn0 : n ≤ 0)
    (p1 : 0 ≤ a1) (p1' : a1 ≤ 65535) (p2 : -9223372036854775808 ≤ a2) (p2' : a2 ≤ 9223372036854775807) :
    Calls Yba.prog 3 #[.slice ao len cap, .int .u16 a1, .int .i64 a2, .bool true, .bool a4, .bool a5] w fun e w' => e = .returned (.bool true) ∧ Below w.heap.size w w' := by
  have Hn := hidIt hn
  have hg : ¬ (0 : Int) < (len : Int) + a1 % 9000 := by omega
  have HN0 : Hid (n = 0) := hidIt (by omega)
  clear hn
  have hnn := nil_neq ao len cap
  go_enter Yba.func3, Yba.ntmps3
  go_upto_if 36 with (fail)
  rw [Hn.out]
  go_cut [14, 15] (fun x _ w1 => ∃ ao' : Option Addr, x = .slice ao' n 0 ∧ Hid (Below w.heap.size w w1))
  case first =>
    as_aux_lemma =>
    have hg' : ¬ (0 : Int) < (n : Int) := by omega
    cases ao
    · go_wp2
      go_meet
      case rel => exact ⟨none, by rw [HN0.out], hidIt (Below.refl _ _)⟩
    · go_wp2
      go_meet
      case rel => exact ⟨some _, by rw [HN0.out], hidIt ((Below.refl _ _).alloc (Nat.le_refl _) _)⟩
  case rest =>
  obtain ⟨ao', rfl, H1⟩ := hcut
  obtain ⟨w1, rfl⟩ : ∃ w1, w1 = wc := ⟨_, rfl⟩
  clear hnn
  have hmc := chan_run
  go_upto_if 72 with (fail)
  go_cut [17] (fun y w2 => ∃ ch : Option Nat, y = .chan ch ∧ ch.isSome = a5 ∧ Hid (S0 w w2 ch))
  case first =>
    as_aux_lemma =>
    cases a5
    · go_wp2
      go_meet
      case rel => exact ⟨none, rfl, rfl, hidIt (S0.none H1.out)⟩
    · go_wp2
      go_meet
      case rel => exact ⟨some w1.heap.size, rfl, rfl, hidIt (S0.some H1.out)⟩
  case rest =>
  obtain ⟨ch, rfl, ha5, H2⟩ := hcut
  obtain ⟨w2, rfl⟩ : ∃ w2, w2 = wc := ⟨_, rfl⟩
  go_wp2_with fail
  refine (next_st_zero' w2.heap.size ao' n 0 HN0.out a4 ch a2 _ (by exact conn_new w2 _ a4 ch true)).mono ?_
  rintro e w3 ⟨rfl, c1, k1⟩
  have H3 := hidIt (show S3 w w3 n (fun _ => 0) w2.heap.size (.slice none 0 0) false ch true ch false from ⟨c1, fun i hi => absurd hi (by omega), H2.out.after (.inr rfl) k1, H2.out.chan k1⟩)
  clear k1 c1 hmc
  obtain ⟨C, hC⟩ : ∃ C, C = w2.heap.size := ⟨_, rfl⟩
  rw [← hC] at H3 ⊢
  clear hC H1 H2 Hn
  obtain ⟨⟨c0, f0⟩, ⟨c1, f1⟩, ⟨c2, f2⟩, -, -, -, -, ⟨c8, f8⟩⟩ := H3.out.1
  clear f0 f1 f2 f8
  have hni := neq_iface
  go_upto_block 2 with fail
  clear c0 c1 c2 c8 hni
  go_cut [21] (fun _ w4 => Hid (S3 w w4 n (fun _ => 0) C (.slice none 0 0) false ch true ch false))
  case first =>
    as_aux_lemma =>
    go_wp2
    go_loopw [21] (fun x wr => ∃ j : Nat, x = .int .i64 j ∧ j ≤ n ∧ Hid (S3 w wr n (fun _ => 0) C (.slice none 0 0) false ch true ch false)) (fun x _ => n - (intOf x).toNat)
    case atStart => exact ⟨0, rfl, by omega, H3⟩
    case round =>
      obtain ⟨j, rfl, hj, G⟩ := hrel
      have hlt : ¬ j < n := by omega
      go_wp2
      go_meet
      case rel => exact G
  case rest =>
  have H4 := hcut
  clear hcut H3
  obtain ⟨w4, rfl⟩ : ∃ w4, w4 = wc := ⟨_, rfl⟩
  obtain ⟨-, -, -, -, ⟨c5, f5⟩, ⟨c6, f6⟩, ⟨c7, f7⟩, -⟩ := H4.out.1
  clear f5 f6 f7
  have hnc := neq_chan ch
  have hd0 : ((n : Int) == 0) = true := by simp; omega
  have hen : ∀ W : World, (binOp .eql 22 (.slice none 0 0) (.slice none 0 0)).run Yba.prog W = .ok (.bool true) W := fun W => by kernel_rfl
  go_wp2_with (go_at_call 6; refine (closed_any ch false _ H4.out.2.2.2).mono ?_; rintro e w5 ⟨rfl, hw5⟩; subst w5)
  go_ret
  exact ⟨rfl, H4.out.2.2.1⟩

set_option maxHeartbeats 1600000 in
set_option maxRecDepth 100000 in
theorem law_zero_go (ao : Option Addr) (len cap : Nat) (a1 a2 : Int) (a4 a5 : Bool) (w : World) (n : Nat) (hlen : len ≤ 0) (hn : (len : Int) + a1 % 9000 = n) (hn0 : n ≤ 0)
    (p1 : 0 ≤ a1) (p1' : a1 ≤ 65535) (p2 : -9223372036854775808 ≤ a2) (p2' : a2 ≤ 9223372036854775807) :
    Calls Yba.prog 3 #[.slice ao len cap, .int .u16 a1, .int .i64 a2, .bool false, .bool a4, .bool a5] w fun e w' => e = .returned (.bool true) ∧ Below w.heap.size w w' := by
  have Hn := hidIt hn
  have hg : ¬ (0 : Int) < (len : Int) + a1 % 9000 := by omega
  have HN0 : Hid (n = 0) := hidIt (by omega)
  clear hn
  have hnn := nil_neq ao len cap
  go_enter Yba.func3, Yba.ntmps3
  go_upto_if 36 with (fail)
  rw [Hn.out]
  go_cut [14, 15] (fun x _ w1 => ∃ ao' : Option Addr, x = .slice ao' n 0 ∧ Hid (Below w.heap.size w w1))
  case first =>
    as_aux_lemma =>
    have hg' : ¬ (0 : Int) < (n : Int) := by omega
    cases ao
    · go_wp2
      go_meet
      case rel => exact ⟨none, by rw [HN0.out], hidIt (Below.refl _ _)⟩
    · go_wp2
      go_meet
      case rel => exact ⟨some _, by rw [HN0.out], hidIt ((Below.refl _ _).alloc (Nat.le_refl _) _)⟩
  case rest =>
  obtain ⟨ao', rfl, H1⟩ := hcut
  obtain ⟨w1, rfl⟩ : ∃ w1, w1 = wc := ⟨_, rfl⟩
  clear hnn
  have hmc := chan_run
  go_upto_region 14 with (fail)
  go_cut [64] (fun y w2 => y = .bool (decide (a2 < 0 ∨ (n : Int) < a2)) ∧ w2 = w1)
  case first =>
    as_aux_lemma =>
    by_cases hneg : a2 < 0
    · have hd : decide (a2 < 0) = true := by simpa using hneg
      go_wp2
      go_meet
      case rel => exact ⟨by simp [hneg], rfl⟩
    · have hd : decide (a2 < 0) = false := by simpa using hneg
      go_wp2
      go_meet
      case rel => exact ⟨by simp; omega, rfl⟩
  case rest =>
  obtain ⟨rfl, hwc⟩ := hcut
  subst wc
  go_upto_if 64 with (fail)
  go_cut [16] (fun x w2 => ∃ k : Nat, x = .int .i64 k ∧ k ≤ n ∧ w2 = w1)
  case first =>
    as_aux_lemma =>
    by_cases hneg : a2 < 0 ∨ (n : Int) < a2
    · have hd : decide (a2 < 0 ∨ (n : Int) < a2) = true := by simpa using hneg
      go_wp2
      go_meet
      case rel =>
        obtain ⟨k, e1, e2⟩ := mod_ok a2 n (by omega)
        exact ⟨k, e1, e2, rfl⟩
    · have hd : decide (a2 < 0 ∨ (n : Int) < a2) = false := by simpa using hneg
      have g1 : 0 ≤ a2 := by omega
      have g2 : a2 ≤ n := by omega
      go_wp2
      go_meet
      case rel => exact ⟨a2.toNat, by go_num, by omega, rfl⟩
  case rest =>
  obtain ⟨k, rfl, hk, hwc⟩ := hcut
  subst wc
  go_upto_if 72 with (fail)
  go_cut [17] (fun y w2 => ∃ ch : Option Nat, y = .chan ch ∧ ch.isSome = a5 ∧ Hid (S0 w w2 ch))
  case first =>
    as_aux_lemma =>
    cases a5
    · go_wp2
      go_meet
      case rel => exact ⟨none, rfl, rfl, hidIt (S0.none H1.out)⟩
    · go_wp2
      go_meet
      case rel => exact ⟨some w1.heap.size, rfl, rfl, hidIt (S0.some H1.out)⟩
  case rest =>
  obtain ⟨ch, rfl, ha5, H2⟩ := hcut
  obtain ⟨w2, rfl⟩ : ∃ w2, w2 = wc := ⟨_, rfl⟩
  go_wp2_with fail
  have HK : Hid (k = 0) := hidIt (by omega)
  refine (next_go_zero w2.heap.size _ ao' 0 a4 ch (k : Int) _ (by exact conn_new w2 _ a4 ch false) ⟨_, _, _, rfl⟩ (fun W => by rw [HK.out, HN0.out]; exact slice_zero ao' W) (H2.out.free _)).mono ?_
  rintro e w3 ⟨rfl, c1, k1, k4⟩
  have H3 := hidIt (show S3 w w3 n (fun _ => 0) w2.heap.size (.slice none 0 0) false none false ch true from ⟨c1, fun i hi => absurd hi (by omega), H2.out.after (.inl rfl) k1, k4⟩)
  clear k1 c1 k4 hmc
  obtain ⟨C, hC⟩ : ∃ C, C = w2.heap.size := ⟨_, rfl⟩
  rw [← hC] at H3 ⊢
  clear hC H1 H2 Hn
  obtain ⟨⟨c0, f0⟩, ⟨c1, f1⟩, ⟨c2, f2⟩, -, -, -, -, ⟨c8, f8⟩⟩ := H3.out.1
  clear f0 f1 f2 f8
  have hni := neq_iface
  go_upto_block 2 with fail
  clear c0 c1 c2 c8 hni
  go_cut [21] (fun _ w4 => Hid (S3 w w4 n (fun _ => 0) C (.slice none 0 0) false none false ch true))
  case first =>
    as_aux_lemma =>
    go_wp2
    go_loopw [21] (fun x wr => ∃ j : Nat, x = .int .i64 j ∧ j ≤ n ∧ Hid (S3 w wr n (fun _ => 0) C (.slice none 0 0) false none false ch true)) (fun x _ => n - (intOf x).toNat)
    case atStart => exact ⟨0, rfl, by omega, H3⟩
    case round =>
      obtain ⟨j, rfl, hj, G⟩ := hrel
      have hlt : ¬ j < n := by omega
      go_wp2
      go_meet
      case rel => exact G
  case rest =>
  have H4 := hcut
  clear hcut H3
  obtain ⟨w4, rfl⟩ : ∃ w4, w4 = wc := ⟨_, rfl⟩
  obtain ⟨-, -, -, -, ⟨c5, f5⟩, ⟨c6, f6⟩, ⟨c7, f7⟩, -⟩ := H4.out.1
  clear f5 f6 f7
  have hnn := neq_none
  go_upto_region 37 with (fail)
  clear hnn c7
  go_cut [152] (fun y w5 => y = .bool false ∧ w5 = w4)
  case first =>
    as_aux_lemma =>
    cases a5
    · go_wp2
      go_meet
      case rel => exact ⟨rfl, rfl⟩
    · go_wp2_with (go_at_call 6; refine (closed_any ch true _ H4.out.2.2.2).mono ?_; rintro e w5 ⟨rfl, hw5⟩; subst w5)
      go_meet
      case rel => exact ⟨rfl, rfl⟩
  case rest =>
  obtain ⟨rfl, hwc⟩ := hcut
  subst wc
  have hen : ∀ W : World, (binOp .eql 22 (.slice none 0 0) (.slice none 0 0)).run Yba.prog W = .ok (.bool true) W := fun W => by kernel_rfl
  have hkn : (n : Int) - k = 0 := by omega
  go_wp2
  go_ret
  exact ⟨rfl, H4.out.2.2.1⟩
end Go.Proofs.Ybulkdqts.E
