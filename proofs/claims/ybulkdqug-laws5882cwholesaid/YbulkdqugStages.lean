/-
  LawS5882CWhole: what holds of the world at each stage of the law, and the plain law: the node that newOutcome leaves at (x, y) is the one that the law wants.
-/
import Derived.Test.YbulkdqugPlain
namespace Go.Proofs.Ybulkdqug.K
open Go.RowKit
/-- The world ahead of newOutcome: the network, the points. -/
def S1 (w wr : World) (n : Nat) (W H : Int) (X Y : Nat → Int) : Prop :=
  (At wr w.heap.size 0 (.int .i64 W) ∧ At wr w.heap.size 1 (.int .i64 H)) ∧ Pts wr (w.heap.size + 1) n X Y ∧ Below w.heap.size w wr ∧ w.heap.size + 1 < wr.heap.size
theorem S1.later {w wr w' : World} {n : Nat} {W H : Int} {X Y : Nat → Int} (h : S1 w wr n W H X Y) (hb : Below wr.heap.size wr w') : S1 w w' n W H X Y := by
  obtain ⟨⟨a0, a1⟩, b, c, d⟩ := h
  have hz := hb.size
  exact ⟨⟨a0.later hb (by omega), a1.later hb (by omega)⟩, b.later hb (by omega), c.trans (hb.mono (by omega)), by omega⟩
theorem S1.put {w wr : World} {n : Nat} {W H : Int} {X Y : Nat → Int} (h : S1 w wr n W H X Y) (k : Nat) (a b : Int) :
    S1 w ((wr.setCell ⟨w.heap.size + 1, k * 2, none⟩ (.int .i64 a)).setCell ⟨w.heap.size + 1, k * 2 + 1, none⟩ (.int .i64 b)) n W H (putI X k a) (putI Y k b) := by
  obtain ⟨⟨a0, a1⟩, c, d, e⟩ := h
  exact ⟨⟨(a0.set_other (by omega) _).set_other (by omega) _, (a1.set_other (by omega) _).set_other (by omega) _⟩, c.put k a b, (d.setCell (by simp) _).setCell (by simp) _, by simpa using e⟩
/-- The world behind newOutcome: the network, the points twice, the outcome and its nodes. -/
def S4 (w wr : World) (Q D O n T : Nat) (W H value : Int) (X Y : Nat → Int) (f : Nat → NSt) : Prop :=
  (At wr w.heap.size 0 (.int .i64 W) ∧ At wr w.heap.size 1 (.int .i64 H)) ∧ (Pts wr (w.heap.size + 1) n X Y ∧ Pts wr Q n X Y) ∧
  (At wr O 0 (.int .i64 value) ∧ At wr O 1 (.slice (some ⟨D, 0, none⟩) T T) ∧ At wr O 2 (.int .i64 0) ∧ At wr O 3 (.slice none 0 0) ∧ At wr O 4 (.pointer none)) ∧
  NS wr D T f ∧ Below w.heap.size w wr ∧ w.heap.size + 1 < wr.heap.size ∧ Q < wr.heap.size ∧ D < wr.heap.size ∧ O < wr.heap.size
theorem S4.later {w wr w' : World} {Q D O n T : Nat} {W H value : Int} {X Y : Nat → Int} {f : Nat → NSt} (h : S4 w wr Q D O n T W H value X Y f) (hb : Below wr.heap.size wr w') : S4 w w' Q D O n T W H value X Y f := by
  obtain ⟨⟨a0, a1⟩, ⟨p0, p1⟩, ⟨b0, b1, b2, b3, b4⟩, c, d, e1, e2, e3, e4⟩ := h
  have hz := hb.size
  exact ⟨⟨a0.later hb (by omega), a1.later hb (by omega)⟩, ⟨p0.later hb (by omega), p1.later hb e2⟩, ⟨b0.later hb e4, b1.later hb e4, b2.later hb e4, b3.later hb e4, b4.later hb e4⟩, fun i hi => (c i hi).later hb e3, d.trans (hb.mono (by omega)), by omega, by omega, by omega, by omega⟩
/-- The rows of 'bad' that have been made: k of them, each in a block of its own; M: the blocks that were there before. -/
def Bad (wr : World) (M Hn Wn k : Nat) (R : Nat → Nat) (bd : Nat → Nat → Bool) : Prop :=
  (∀ y, y < k → At wr M y (.slice (some ⟨R y, 0, none⟩) Wn Wn) ∧ M < R y ∧ R y < wr.heap.size ∧ ∀ x, x < Wn → At wr (R y) x (.bool (bd y x))) ∧
  (∀ y, k ≤ y → y < Hn → At wr M y (.slice none 0 0)) ∧ (∀ y y', y < k → y' < k → R y = R y' → y = y') ∧ M < wr.heap.size
theorem Bad.start (w : World) (Hn Wn : Nat) : Bad (w.alloc (.cells (madeCells #[.slice none 0 0] Hn) 65)) w.heap.size Hn Wn 0 (fun _ => 0) (fun _ _ => false) :=
  ⟨fun y hy => absurd hy (by omega), fun y _ hy => At.new (made_at _ Hn y hy), fun y y' hy => absurd hy (by omega), by simp⟩
theorem Bad.later {wr w' : World} {M Hn Wn k : Nat} {R : Nat → Nat} {bd : Nat → Nat → Bool} (h : Bad wr M Hn Wn k R bd) (hb : Below wr.heap.size wr w') : Bad w' M Hn Wn k R bd := by
  obtain ⟨h1, h2, h3, h4⟩ := h
  have hz := hb.size
  exact ⟨fun y hy => ⟨(h1 y hy).1.later hb h4, (h1 y hy).2.1, by have := (h1 y hy).2.2.1; omega, fun x hx => ((h1 y hy).2.2.2 x hx).later hb (h1 y hy).2.2.1⟩, fun y a b => (h2 y a b).later hb h4, h3, by omega⟩
def putN (R : Nat → Nat) (k v : Nat) : Nat → Nat := fun j => if j = k then v else R j
/-- One row more: made at the heap's end, then laid into 'bad'. -/
theorem Bad.row {wr : World} {M Hn Wn k : Nat} {R : Nat → Nat} (h : Bad wr M Hn Wn k R (fun _ _ => false)) (hk : k < Hn) :
    Bad ((wr.alloc (.cells (madeCells #[.bool false] Wn) 4)).setCell ⟨M, k, none⟩ (.slice (some ⟨wr.heap.size, 0, none⟩) Wn Wn)) M Hn Wn (k + 1) (putN R k wr.heap.size) (fun _ _ => false) := by
  have hb : Below wr.heap.size wr (wr.alloc (.cells (madeCells #[.bool false] Wn) 4)) := (Below.refl _ _).alloc (Nat.le_refl _) _
  obtain ⟨h1, h2, h3, h4⟩ := h
  refine ⟨fun y hy => ?_, fun y a b => ((h2 y (by omega) b).later hb h4).set_other (by omega) _, fun y y' hy hy' e => ?_, by simp; omega⟩
  · by_cases ey : y = k
    · subst ey
      simp only [putN, if_true]
      refine ⟨((h2 y (by omega) hk).later hb h4).set_same _, h4, by simp, fun x hx => ?_⟩
      exact (At.new (made_at _ Wn x hx)).set_other (by omega) _
    · simp only [putN, ey, if_false]
      obtain ⟨g1, g2, g3, g4⟩ := h1 y (by omega)
      exact ⟨(g1.later hb h4).set_other (by omega) _, g2, by simp; omega, fun x hx => ((g4 x hx).later hb g3).set_other (by omega) _⟩
  · have hlt : ∀ t, t < k → R t < wr.heap.size := fun t ht => (h1 t ht).2.2.1
    by_cases e1 : y = k <;> by_cases e2 : y' = k
    · omega
    · have := hlt y' (by omega); simp only [putN, e1, e2, if_true, if_false] at e; omega
    · have := hlt y (by omega); simp only [putN, e1, e2, if_true, if_false] at e; omega
    · simp only [putN, e1, e2, if_false] at e; exact h3 y y' (by omega) (by omega) e
def put2 (bd : Nat → Nat → Bool) (y x : Nat) : Nat → Nat → Bool := fun a b => if a = y ∧ b = x then true else bd a b
theorem Bad.mark {wr : World} {M Hn Wn k : Nat} {R : Nat → Nat} {bd : Nat → Nat → Bool} (h : Bad wr M Hn Wn k R bd) (y x : Nat) (hy : y < k) (hx : x < Wn) :
    Bad (wr.setCell ⟨R y, x, none⟩ (.bool true)) M Hn Wn k R (put2 bd y x) := by
  obtain ⟨h1, h2, h3, h4⟩ := h
  obtain ⟨g1, g2, g3, g4⟩ := h1 y hy
  refine ⟨fun y' hy' => ?_, fun y' a b => (h2 y' a b).set_other (by omega) _, h3, by simpa using h4⟩
  obtain ⟨k1, k2, k3, k4⟩ := h1 y' hy'
  refine ⟨k1.set_other (by omega) _, k2, by simpa using k3, fun x' hx' => ?_⟩
  by_cases e : y' = y ∧ x' = x
  · obtain ⟨rfl, rfl⟩ := e
    simp only [put2, and_self, if_true]
    exact (k4 x' hx').set_same _
  · simp only [put2, e, if_false]
    refine (k4 x' hx').set_other ?_ _
    by_cases ey : y' = y
    · right; intro ex; exact e ⟨ey, ex.symm⟩
    · left; intro er; exact ey (h3 y y' hy hy' er).symm
/-! ### the plain law -/
/-- Is one of the first k points at (x, y)? -/
def hit (xs ys : Nat → Nat) : Nat → Nat → Nat → Bool
  | 0 => fun _ _ => false
  | k + 1 => put2 (hit xs ys k) (ys k) (xs k)
/-- The node that the law wants at (x, y). -/
def want (value : Int) (b : Bool) (x y : Nat) : NSt :=
  ⟨x, y, if b then faulty else if x = 0 ∧ y = 0 then source else honest, decide (x = 0 ∧ y = 0), if x = 0 ∧ y = 0 then value else 0⟩
theorem idx_nat (Wn : Nat) (xs ys : Nat → Nat) (i : Nat) : idx (Wn : Int) (fun i => (xs i : Int)) (fun i => (ys i : Int)) i = ys i * Wn + xs i := by
  unfold idx
  have : ((ys i : Int) * (Wn : Int) + (xs i : Int)) = ((ys i * Wn + xs i : Nat) : Int) := by simp
  rw [this]; exact Int.toNat_natCast _
theorem base_eq (Wn : Nat) (value : Int) (x y : Nat) (hx : x < Wn) : base (Wn : Int) value (y * Wn + x) = want value false x y := by
  unfold base want
  by_cases h : x = 0 ∧ y = 0
  · obtain ⟨rfl, rfl⟩ := h; simp
  · have hne : ¬ y * Wn + x = 0 := by
      intro e
      apply h
      have h2 : y * Wn = 0 := by omega
      rcases Nat.mul_eq_zero.1 h2 with h3 | h3
      · exact ⟨by omega, h3⟩
      · omega
    rw [if_neg hne, if_neg h]
    simp only [init, h, decide_false, Bool.false_eq_true, if_false, NSt.mk.injEq, and_true]
    have e1 : (y * Wn + x) % Wn = x := by rw [Nat.mul_comm, Nat.mul_add_mod, Nat.mod_eq_of_lt hx]
    have e2 : (y * Wn + x) / Wn = y := by rw [Nat.mul_comm, Nat.mul_add_div (by omega), Nat.div_eq_of_lt hx]; omega
    refine ⟨?_, ?_⟩
    · rw [← Int.natCast_emod, e1]
    · rw [← Int.natCast_ediv, e2]
theorem pair_inj (Wn x y x' y' : Nat) (hx : x < Wn) (hx' : x' < Wn) (h : y * Wn + x = y' * Wn + x') : y = y' ∧ x = x' := by
  have e1 : (y * Wn + x) % Wn = x := by rw [Nat.mul_comm, Nat.mul_add_mod, Nat.mod_eq_of_lt hx]
  have e2 : (y' * Wn + x') % Wn = x' := by rw [Nat.mul_comm, Nat.mul_add_mod, Nat.mod_eq_of_lt hx']
  have e3 : (y * Wn + x) / Wn = y := by rw [Nat.mul_comm, Nat.mul_add_div (by omega), Nat.div_eq_of_lt hx]; omega
  have e4 : (y' * Wn + x') / Wn = y' := by rw [Nat.mul_comm, Nat.mul_add_div (by omega), Nat.div_eq_of_lt hx']; omega
  exact ⟨by rw [← e3, ← e4, h], by rw [← e1, ← e2, h]⟩
theorem fin_eq (Wn : Nat) (value : Int) (xs ys : Nat → Nat) (hxs : ∀ i, xs i < Wn) (x y : Nat) (hx : x < Wn) :
    ∀ k, fin (Wn : Int) value (fun i => (xs i : Int)) (fun i => (ys i : Int)) k (y * Wn + x) = want value (hit xs ys k y x) x y
  | 0 => base_eq Wn value x y hx
  | k + 1 => by
    have ih := fin_eq Wn value xs ys hxs x y hx k
    show putF _ (idx (Wn : Int) _ _ k) _ (y * Wn + x) = want value (put2 (hit xs ys k) (ys k) (xs k) y x) x y
    rw [idx_nat]
    by_cases e : y = ys k ∧ x = xs k
    · obtain ⟨rfl, rfl⟩ := e
      simp only [putF, put2, and_self, if_true]
      rw [ih]
      simp only [withRole, want, if_true]
    · have hne : ¬ y * Wn + x = ys k * Wn + xs k := fun h => e (pair_inj Wn x y (xs k) (ys k) hx (hxs k) h)
      simp only [putF, put2, hne, e, if_false]
      exact ih
end Go.Proofs.Ybulkdqug.K
