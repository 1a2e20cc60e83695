/-
  LawS5882BWhole: of, sourceWord.
-/
import Derived.Test.YbulkdqugBSlotOf
namespace Go.Proofs.Ybulkdqug.K
open Go.RowKit Go.BigFrame
set_option linter.unusedVariables false
set_option maxRecDepth 100000 in
set_option maxHeartbeats 1000000 in
theorem of_any (N V n : Nat) (d u p : Nat) (hp : p = u * d) (hd : 1 ≤ d) (hd2 : d ≤ 10) (hu2 : u ≤ 4096) (hn : p + d ≤ n) (w : World) (hN : N < w.heap.size) (c6 : w.cell? ⟨N, 6, none⟩ = some (.int .i64 d)) :
    Calls Yba.prog 14 #[.agg #[.pointer (some ⟨N, 0, none⟩), .slice (some ⟨V, 0, none⟩) n n], .int .i64 u] w fun e w' => e = .returned (.slice (some ⟨V, p, none⟩) d d) ∧ Below w.heap.size w w' := by
  have e1 : (u : Int) * (d : Int) = (p : Int) := by rw [hp]; push_cast; rfl
  obtain ⟨p2, hp2⟩ : ∃ p2, p2 = p + d := ⟨_, rfl⟩
  have e2 : ((u : Int) + 1) * (d : Int) = (p2 : Int) := by rw [Int.add_mul, e1, hp2]; push_cast; omega
  have hs := fun w' => slice3_run V n p p2 (by omega) (by omega) w'
  rw [show p2 - p = d from by omega] at hs
  have hb : p ≤ 40960 := by rw [hp]; exact Nat.mul_le_mul hu2 hd2
  have hb1 : (0 : Int) ≤ (p : Int) := by omega
  have hb2 : (p : Int) ≤ 40960 := by omega
  have hb3 : (0 : Int) ≤ (p2 : Int) := by omega
  have hb4 : (p2 : Int) ≤ 40970 := by omega
  clear hp hp2 hn hb
  go_enter Yba.func14, Yba.ntmps14
  go_wp2
  go_ret
  exact ⟨rfl, (Below.refl _ _).alloc (Nat.le_refl _) _⟩
theorem val_later {w1 w2 w3 : World} {V nv p k : Nat} {g : Nat → Int} {v : Int} (h : Row .i8 w1 V nv g) (hv : v = g (p + k)) (hb2 : Below w1.heap.size w1 w2) (hb3 : Below w2.heap.size w2 w3) (hV : V < w1.heap.size) (hk : p + k < nv) : w3.cell? ⟨V, p + k, none⟩ = some (.int .i8 v) := by
  rw [hv]
  exact ((h (p + k) hk).later (hb2.trans (hb3.mono hb2.size)) hV).1
set_option maxRecDepth 100000 in
set_option maxHeartbeats 1000000 in
theorem sourceWord_any (N S V n nv : Nat) (W H r x y ax ay t : Int) (d u p : Nat) (f g : Nat → Int) (hx : (u : Int) % W = x) (hy : (u : Int) / W = y) (hax : wrapB (-x) W r = ax) (hay : wrapB (-y) H r = ay) (ht : slotB ax ay r f = t) (hr : 0 ≤ r) (hr2 : r ≤ 2) (hW : 1 ≤ W) (hW2 : W ≤ 64) (hH : 1 ≤ H) (hH2 : H ≤ 64)
    (hu2 : u ≤ 4096) (hx0 : 0 ≤ x) (hx2 : x ≤ 64) (hy0 : 0 ≤ y) (hy2 : y ≤ 64) (hn : (n : Int) = (2 * r + 1) * (2 * r + 1)) (hp : p = u * d) (hd : 1 ≤ d) (hd2 : d ≤ 10) (hnv : p + d ≤ nv) (ht2 : t < d) (hg : ∀ i, i < nv → -128 ≤ g i ∧ g i ≤ 127)
    (w : World) (hS : S < w.heap.size) (hV : V < w.heap.size) (net : Net w N S n W H r d f) (row : Row .i8 w V nv g) :
    Calls Yba.prog 7 #[.agg #[.pointer (some ⟨N, 0, none⟩), .slice (some ⟨V, 0, none⟩) nv nv], .int .i64 u] w fun e w' =>
      e = .returned (.tuple #[.int .i64 (if t < 0 then 0 else g (p + t.toNat)), .bool (if t < 0 then false else g (p + t.toNat) != -1), .bool (!decide (t < 0))]) ∧ Below w.heap.size w w' := by
  have hN : N < w.heap.size := net.c0.lt
  have b0 : Below w.heap.size w (w.alloc (.cells #[.pointer (some ⟨N, 0, none⟩), .slice (some ⟨V, 0, none⟩) nv nv] 40)) := (Below.refl _ _).alloc (Nat.le_refl _) _
  have net1 := net.later b0 hN hS
  have row1 := row.later b0 (.inr hV)
  obtain ⟨w1, hw1⟩ : ∃ v, v = w.alloc (.cells #[.pointer (some ⟨N, 0, none⟩), .slice (some ⟨V, 0, none⟩) nv nv] 40) := ⟨_, rfl⟩
  have q0 : w1.cell? ⟨w.heap.size, 0, none⟩ = some (.pointer (some ⟨N, 0, none⟩)) := by rw [hw1]; simp
  have q1 : w1.cell? ⟨w.heap.size, 1, none⟩ = some (.slice (some ⟨V, 0, none⟩) nv nv) := by rw [hw1]; simp
  have hsz : w.heap.size < w1.heap.size := by rw [hw1]; simp
  rw [← hw1] at b0 net1 row1
  have Hslot := hidIt (slot_any N S n W H r d u x y ax ay t f hx hy hax hay ht hr hr2 hW hW2 hH hH2 (by omega) (by omega) hx0 hx2 hy0 hy2 hn w1 (by omega) net1)
  have Hw1 := hidIt hw1.symm
  have Hrow := hidIt row1
  have Hnet := hidIt net1
  have Hg := hidIt hg
  have Hp := hidIt hp
  clear hw1 hx hy hax hay ht net net1 row row1 hg hp hn
  by_cases h0 : t < 0
  · rw [if_pos h0, if_pos h0, decide_eq_true h0]
    go_enter Yba.func7, Yba.ntmps7
    go_wp2_with (go_at_call 13; rw [Hw1.out]; refine Hslot.out.mono ?_; rintro _ w2 ⟨rfl, hb2⟩)
    go_ret3
    exact ⟨rfl, b0.trans (hb2.mono b0.size)⟩
  · rw [if_neg h0, if_neg h0, decide_eq_false h0]
    obtain ⟨k, rfl⟩ : ∃ k : Nat, t = k := ⟨t.toNat, by omega⟩
    have hkd : k < d := by omega
    simp only [Int.toNat_natCast]
    obtain ⟨g1, g2⟩ := Hg.out (p + k) (by omega)
    have i0 : (0 : Int) ≤ (k : Int) := by omega
    have i1 : (k : Int) < (d : Int) := by omega
    obtain ⟨v, hv⟩ : ∃ v, v = g (p + k) := ⟨_, rfl⟩
    have Hv := hidIt hv
    rw [← hv] at g1 g2 ⊢
    clear hv
    go_enter Yba.func7, Yba.ntmps7
    go_wp2_with (first
      | (go_at_call 14; refine (of_any N V nv d u p Hp.out hd hd2 hu2 hnv w2 hN2 c62).mono ?_; rintro _ w3 ⟨rfl, hb3⟩; have cv := val_later Hrow.out Hv.out hb2 hb3 (by omega) (by omega))
      | (go_at_call 13; rw [Hw1.out]; refine Hslot.out.mono ?_; rintro _ w2 ⟨rfl, hb2⟩; have q02 := bcell hb2 hsz q0; have q12 := bcell hb2 hsz q1; have hN2 : N < w2.heap.size := Nat.lt_of_lt_of_le (Nat.lt_of_lt_of_le hN b0.size) hb2.size; have c62 := (Hnet.out.c6.later hb2 (Nat.lt_of_lt_of_le hN b0.size)).1))
    go_ret3
    exact ⟨rfl, (b0.trans (hb2.mono b0.size)).trans (hb3.mono (Nat.le_trans b0.size hb2.size))⟩
end Go.Proofs.Ybulkdqug.K
