/-
  LawS5882BWhole: slotAt, slot, of, sourceWord.
-/
import Derived.Test.YbulkdqugBSmall
import Derived.Deep.DeepCutAuto
import Derived.Deep.CutBlock
namespace Go.Proofs.Ybulkdqug.K
open Go.RowKit Go.BigFrame
set_option linter.unusedVariables false
/-- A network as the law builds it: the cells that are read. -/
structure Net (w : World) (N S n : Nat) (W H r d : Int) (f : Nat → Int) : Prop where
  c0 : At w N 0 (.int .i64 W)
  c1 : At w N 1 (.int .i64 H)
  c2 : At w N 2 (.int .i64 r)
  c6 : At w N 6 (.int .i64 d)
  c8 : At w N 8 (.slice (some ⟨S, 0, none⟩) n n)
  row : Row .i64 w S n f
theorem Row.later {k : IntKind} {w w' : World} {B S n : Nat} {f : Nat → Int} (h : Row k w S n f) (hb : Below B w w') (hB : n = 0 ∨ S < B) : Row k w' S n f := fun i hi => (h i hi).later hb (by omega)
theorem Net.later {w w' : World} {B N S n : Nat} {W H r d : Int} {f : Nat → Int} (h : Net w N S n W H r d f) (hb : Below B w w') (hN : N < B) (hS : S < B) : Net w' N S n W H r d f :=
  ⟨h.c0.later hb hN, h.c1.later hb hN, h.c2.later hb hN, h.c6.later hb hN, h.c8.later hb hN, h.row.later hb (.inr hS)⟩
/-- What 'slotAt' answers behind its two wraps. -/
def slotB (ax ay r : Int) (f : Nat → Int) : Int := if -r ≤ ax ∧ ax ≤ r ∧ -r ≤ ay ∧ ay ≤ r then f ((ay + r) * (2 * r + 1) + ax + r).toNat else -1
set_option maxRecDepth 100000 in
set_option maxHeartbeats 1000000 in
theorem slotAt_any (N S n : Nat) (W H r d dx dy ax ay t : Int) (f : Nat → Int) (hax : wrapB dx W r = ax) (hay : wrapB dy H r = ay) (ht : slotB ax ay r f = t) (hr : 0 ≤ r) (hr2 : r ≤ 2) (hW : 1 ≤ W) (hW2 : W ≤ 64) (hH : 1 ≤ H) (hH2 : H ≤ 64)
    (hdx : -64 ≤ dx) (hdx2 : dx ≤ 64) (hdy : -64 ≤ dy) (hdy2 : dy ≤ 64) (hn : (n : Int) = (2 * r + 1) * (2 * r + 1)) (w : World) (hS : S < w.heap.size) (net : Net w N S n W H r d f) :
    Calls Yba.prog 18 #[.pointer (some ⟨N, 0, none⟩), .int .i64 dx, .int .i64 dy] w fun e w' => e = .returned (.int .i64 t) ∧ Below w.heap.size w w' := by
  have hN : N < w.heap.size := net.c0.lt
  obtain ⟨bx, bx'⟩ : -200 ≤ ax ∧ ax ≤ 200 := by rw [← hax]; unfold wrapB; split <;> (try split) <;> omega
  obtain ⟨by1, by2⟩ : -200 ≤ ay ∧ ay ≤ 200 := by rw [← hay]; unfold wrapB; split <;> (try split) <;> omega
  have b0 : Below w.heap.size w (w.alloc (.cells #[.pointer (some ⟨N, 0, none⟩)] 28)) := (Below.refl _ _).alloc (Nat.le_refl _) _
  have net1 := net.later b0 hN hS
  obtain ⟨w1, hw1⟩ : ∃ v, v = w.alloc (.cells #[.pointer (some ⟨N, 0, none⟩)] 28) := ⟨_, rfl⟩
  have cB : w1.cell? ⟨w.heap.size, 0, none⟩ = some (.pointer (some ⟨N, 0, none⟩)) := by rw [hw1]; simp
  rw [← hw1] at b0 net1
  have Hw1 := hidIt hw1.symm
  have Hax := hidIt hax
  have Hay := hidIt hay
  have Ht := hidIt ht
  have Hrow := hidIt net1.row
  obtain ⟨⟨c0, -⟩, ⟨c1, -⟩, ⟨c2, -⟩, -, ⟨c8, -⟩, -⟩ := net1
  clear hw1 hax hay ht net
  go_enter Yba.func18, Yba.ntmps18
  go_wp2
  rw [Hw1.out]
  refine wp_region_quiet_lit (by kernel_rfl) (by kernel_rfl) ?_
  iterate 9 (go_big_quiet_step (exact Calls.quiet_of_same (wrap_any N _ dx W r ax Hax.out hr hr2 hW hW2 hdx hdx2 _ cB c2)))
  iterate 9 (go_big_quiet_step (exact Calls.quiet_of_same (wrap_any N _ dy H r ay Hay.out hr hr2 hH hH2 hdy hdy2 _ cB c2)))
  iterate 2 (go_big_quiet_step (fail))
  refine wpQuiet_nil ?_
  intro _ hw'
  obtain ⟨nq, hw''⟩ := hw'
  subst hw''
  obtain ⟨w2, hw2⟩ : ∃ v, v = w1.drewN nq := ⟨_, rfl⟩
  rw [← hw2]
  have b2 : Below w.heap.size w w2 := by rw [hw2]; exact below_drewN b0 _
  replace cB : w2.cell? ⟨w.heap.size, 0, none⟩ = some (.pointer (some ⟨N, 0, none⟩)) := by rw [hw2]; exact cB
  replace c2 : w2.cell? ⟨N, 2, none⟩ = some (.int .i64 r) := by rw [hw2]; exact c2
  replace c8 : w2.cell? ⟨N, 8, none⟩ = some (.slice (some ⟨S, 0, none⟩) n n) := by rw [hw2]; exact c8
  replace Hrow : Hid (Row .i64 w2 S n f) := by rw [hw2]; exact Hrow
  clear hw2 b0 c0 c1 Hw1
  by_cases k1 : ax < -r
  · have e : t = -1 := by rw [← Ht.out]; unfold slotB; rw [if_neg (by omega)]
    subst e
    go_wp2
    go_ret
    exact ⟨rfl, b2⟩
  by_cases k2 : r < ax
  · have e : t = -1 := by rw [← Ht.out]; unfold slotB; rw [if_neg (by omega)]
    subst e
    go_wp2
    go_ret
    exact ⟨rfl, b2⟩
  by_cases k3 : ay < -r
  · have e : t = -1 := by rw [← Ht.out]; unfold slotB; rw [if_neg (by omega)]
    subst e
    go_wp2
    go_ret
    exact ⟨rfl, b2⟩
  by_cases k4 : r < ay
  · have e : t = -1 := by rw [← Ht.out]; unfold slotB; rw [if_neg (by omega)]
    subst e
    go_wp2
    go_ret
    exact ⟨rfl, b2⟩
  obtain ⟨p0, p1⟩ : 0 ≤ (ay + r) * (2 * r + 1) ∧ (ay + r) * (2 * r + 1) + (2 * r + 1) ≤ (n : Int) := by
    rw [hn]
    obtain rfl | rfl | rfl : r = 0 ∨ r = 1 ∨ r = 2 := by omega
    all_goals omega
  have hn25 : (n : Int) ≤ 25 := by
    rw [hn]
    obtain rfl | rfl | rfl : r = 0 ∨ r = 1 ∨ r = 2 := by omega
    all_goals omega
  have Hn := hidIt hn
  clear hn
  obtain ⟨k, hk⟩ : ∃ k : Nat, (ay + r) * (2 * r + 1) + ax + r = k := ⟨((ay + r) * (2 * r + 1) + ax + r).toNat, by omega⟩
  have hkn : k < n := by omega
  have e : t = f k := by rw [← Ht.out]; unfold slotB; rw [if_pos (by omega), hk]; simp
  subst e
  have ck := (Hrow.out k hkn).1
  have i0 : (0 : Int) ≤ (k : Int) := by omega
  have i1 : (k : Int) < (n : Int) := by omega
  clear hkn
  go_wp2
  refine wp_region_quiet_lit (by kernel_rfl) (by kernel_rfl) ?_
  iterate 29 (go_big_quiet_step (exact Calls.quiet_of_same (side_any r hr hr2 _)))
  refine wpQuiet_nil ?_
  intro _ hw'
  obtain ⟨nq, hw''⟩ := hw'
  subst hw''
  go_wp2
  go_ret
  exact ⟨rfl, below_drewN b2 _⟩
end Go.Proofs.Ybulkdqug.K
