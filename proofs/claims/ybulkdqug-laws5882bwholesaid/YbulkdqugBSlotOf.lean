/-
  LawS5882BWhole: slot, of, sourceWord.
-/
import Derived.Test.YbulkdqugBSlot
namespace Go.Proofs.Ybulkdqug.K
open Go.RowKit Go.BigFrame
set_option linter.unusedVariables false
theorem below_two {w w1 w2 : World} {o o' : Obj} (h1 : Below w.heap.size w w1) (h2 : Below w1.heap.size w1 w2) : Below w.heap.size w ((w2.alloc o).alloc o') := by
  have h := h1.trans (h2.mono h1.size)
  exact (h.alloc h.size _).alloc (by have := h.size; simp; omega) _
set_option maxRecDepth 100000 in
set_option maxHeartbeats 1000000 in
theorem slot_any (N S n : Nat) (W H r d u x y ax ay t : Int) (f : Nat → Int) (hx : u % W = x) (hy : u / W = y) (hax : wrapB (-x) W r = ax) (hay : wrapB (-y) H r = ay) (ht : slotB ax ay r f = t) (hr : 0 ≤ r) (hr2 : r ≤ 2) (hW : 1 ≤ W) (hW2 : W ≤ 64) (hH : 1 ≤ H) (hH2 : H ≤ 64)
    (hu : 0 ≤ u) (hu2 : u ≤ 4096) (hx0 : 0 ≤ x) (hx2 : x ≤ 64) (hy0 : 0 ≤ y) (hy2 : y ≤ 64) (hn : (n : Int) = (2 * r + 1) * (2 * r + 1)) (w : World) (hS : S < w.heap.size) (net : Net w N S n W H r d f) :
    Calls Yba.prog 13 #[.pointer (some ⟨N, 0, none⟩), .int .i64 u, .int .i64 0] w fun e w' => e = .returned (.int .i64 t) ∧ Below w.heap.size w w' := by
  have hN : N < w.heap.size := net.c0.lt
  have c0 := net.c0.1
  have Hx := hidIt hx
  have Hy := hidIt hy
  have Hax := hidIt hax
  have Hay := hidIt hay
  have Ht := hidIt ht
  have Hn := hidIt hn
  have Hnet := hidIt net
  clear hax hay ht net hn
  go_enter Yba.func13, Yba.ntmps13
  go_wp2_with (first
    | (go_at_call 18; refine (slotAt_any N S n W H r d (-x) (-y) ax ay t f Hax.out Hay.out Ht.out hr hr2 hW hW2 hH hH2 (by omega) (by omega) (by omega) (by omega) Hn.out _ hS3 net3).mono ?_; rintro _ w4 ⟨rfl, hb4⟩)
    | (go_at_call 16; refine (point_any N W 0 hW (by omega) (by omega) (by omega) _ hN1 c01).mono ?_; rintro _ w2 ⟨rfl, hb2⟩; have hb3 : Below w.heap.size w ((w2.alloc (Obj.cells #[Value.int IntKind.i64 x, Value.int IntKind.i64 y] 51)).alloc (Obj.cells #[Value.int IntKind.i64 0, Value.int IntKind.i64 0] 51)) := below_two hb1 hb2; have hS3 := Nat.lt_of_lt_of_le hS hb3.size; have net3 := Hnet.out.later hb3 hN hS)
    | (go_at_call 16; refine (point_any N W u hW (by omega) (by omega) (by omega) _ hN c0).mono ?_; rintro _ w1 ⟨rfl, hb1⟩; have c01 := bcell hb1 hN c0; have hN1 : N < w1.heap.size := Nat.lt_of_lt_of_le hN hb1.size))
  go_ret
  exact ⟨rfl, hb3.trans (hb4.mono hb3.size)⟩
end Go.Proofs.Ybulkdqug.K
