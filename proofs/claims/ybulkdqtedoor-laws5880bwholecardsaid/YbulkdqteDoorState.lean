/-
  LawS5880BWhole: what holds of the world at each stage of the law: the 64 numbers, the leaf, the ladder; and how each store and each callee leaves it.
-/
import Derived.Test.YbulkdqteDoorSearch
import Derived.Laws.StructEq
namespace Go.Proofs.YbulkdqteDoor.B
open Go.ChangeShapes Go.WideShapes Go.ChangeAt Go.RowKit
/-- The 64 numbers of 'vals', in block B. -/
def Vals (w : World) (B : Nat) (g : Nat → Int) : Prop := ∀ i, i < 64 → w.cell? ⟨B, i, none⟩ = some (.int .u64 (g i)) ∧ w.frozen? ⟨B, i, none⟩ = false
/-- The world while 'vals' alone has been made. -/
def S1 (w w1 : World) (g : Nat → Int) : Prop := Vals w1 w.heap.size g ∧ w1.heap.size = w.heap.size + 1 ∧ Below w.heap.size w w1
def put (g : Nat → Int) (k : Nat) (v : Int) : Nat → Int := fun j => if j = k then v else g j
theorem S1.set {w w1 : World} {g : Nat → Int} (h : S1 w w1 g) (k : Nat) (hk : k < 64) (v : Int) : S1 w (w1.setCell ⟨w.heap.size, k, none⟩ (.int .u64 v)) (put g k v) := by
  obtain ⟨h1, h2, h3⟩ := h
  refine ⟨fun i hi => ?_, by simpa using h2, h3.setCell (Nat.le_refl _) _⟩
  obtain ⟨c, f⟩ := h1 i hi
  refine ⟨?_, by simpa using f⟩
  by_cases e : i = k
  · subst e
    rw [World.cell?_setCell_same _ _ _ c]; simp [put]
  · rw [World.cell?_setCell_other _ _ _ _ (by simp <;> omega), c]; simp only [put, e, if_false]
theorem S1.start (w : World) : S1 w (w.alloc (.cells (Array.replicate 64 (.int .u64 0)) 26)) (fun _ => 0) := by
  refine ⟨fun i hi => ?_, by simp, (Below.refl _ _).alloc (Nat.le_refl _) _⟩
  refine ⟨?_, ?_⟩
  · simp [hi]
  · simp
theorem zero26 (w : World) : (zeroValue 26).run Ybad.prog w = .ok (.agg (Array.replicate 64 (.int .u64 0))) w := by kernel_rfl
def ps (z : Nat → Int) : Nat → Int
  | 0 => 0
  | k + 1 => ps z k + z k
theorem ps_bd (z : Nat → Int) (n : Nat) (hz : ∀ i, i < n → 0 ≤ z i ∧ z i ≤ 255) : ∀ k, k ≤ n → 0 ≤ ps z k ∧ ps z k ≤ 255 * k
  | 0, _ => by simp [ps]
  | k + 1, h => by
    have h1 := ps_bd z n hz k (by omega)
    have h2 := hz k (by omega)
    simp only [ps]
    omega
theorem ps_mono (z : Nat → Int) (n : Nat) (hz : ∀ i, i < n → 0 ≤ z i ∧ z i ≤ 255) (i : Nat) : ∀ d, i + d ≤ n → ps z i ≤ ps z (i + d)
  | 0, _ => by simp
  | d + 1, h => by
    have h1 := ps_mono z n hz i d (by omega)
    have h2 := hz (i + d) (by omega)
    show ps z i ≤ ps z (i + d) + z (i + d)
    omega
def leafZ : Array Value := (([Value.int .i64 0, Value.int .i64 0, Value.pointer none, Value.pointer none, Value.pointer none, Value.pointer none, Value.pointer none, Value.bool false] : List Value) ++ (List.replicate 64 [Value.int .u64 0, Value.int .u64 0, Value.int .u64 0, Value.int .u64 0, Value.int .u64 0, Value.pointer none]).flatten).toArray
theorem zero41 (w : World) : (zeroValue 41).run Ybad.prog w = .ok (.agg leafZ) w := by kernel_rfl
theorem leafZ_0 : leafZ[(0 : Nat)]? = some (.int .i64 0) := by kernel_rfl
theorem leafZ_1 : leafZ[(1 : Nat)]? = some (.int .i64 0) := by kernel_rfl
theorem flat_get (l : List Value) (m : Nat) (hl : l.length = m) : ∀ (n i r : Nat), i < n → r < m → ((List.replicate n l).flatten)[i * m + r]? = l[r]?
  | 0, _, _, h, _ => absurd h (by omega)
  | n + 1, 0, r, _, hr => by
    rw [List.replicate_succ, List.flatten_cons, List.getElem?_append_left (by omega)]; simp
  | n + 1, i + 1, r, h, hr => by
    rw [List.replicate_succ, List.flatten_cons, List.getElem?_append_right (by rw [Nat.add_mul]; omega)]
    rw [show (i + 1) * m + r - l.length = i * m + r from by rw [Nat.add_mul]; omega]
    exact flat_get l m hl n i r (by omega) hr
theorem leafZ_e (i : Nat) (hi : i < 64) : leafZ[8 + i * 6]? = some (.int .u64 0) ∧ leafZ[8 + i * 6 + 1]? = some (.int .u64 0) := by
  unfold leafZ
  rw [List.getElem?_toArray, List.getElem?_toArray, List.getElem?_append_right (by simp <;> omega), List.getElem?_append_right (by simp <;> omega)]
  have h0 := flat_get [Value.int .u64 0, Value.int .u64 0, Value.int .u64 0, Value.int .u64 0, Value.int .u64 0, Value.pointer none] 6 rfl 64 i 0 hi (by omega)
  have h1 := flat_get [Value.int .u64 0, Value.int .u64 0, Value.int .u64 0, Value.int .u64 0, Value.int .u64 0, Value.pointer none] 6 rfl 64 i 1 hi (by omega)
  refine ⟨?_, ?_⟩
  · rw [show 8 + i * 6 - [Value.int .i64 0, Value.int .i64 0, Value.pointer none, Value.pointer none, Value.pointer none, Value.pointer none, Value.pointer none, Value.bool false].length = i * 6 + 0 from by simp <;> omega]
    exact h0
  · rw [show 8 + i * 6 + 1 - [Value.int .i64 0, Value.int .i64 0, Value.pointer none, Value.pointer none, Value.pointer none, Value.pointer none, Value.pointer none, Value.bool false].length = i * 6 + 1 from by simp; omega]
    exact h1
/-- A cell that is there and may be written. -/
def At (w : World) (b o : Nat) (v : Value) : Prop := w.cell? ⟨b, o, none⟩ = some v ∧ w.frozen? ⟨b, o, none⟩ = false
/-- The leaf in block U: lo and hi, and of each entry the price (its high word is 0). -/
def Leaf (w : World) (U : Nat) (x y : Int) (e : Nat → Int) : Prop :=
  At w U 0 (.int .i64 x) ∧ At w U 1 (.int .i64 y) ∧ ∀ i, i < 64 → At w U (8 + i * 6) (.int .u64 0) ∧ At w U (8 + i * 6 + 1) (.int .u64 (e i))
def S2 (w wr : World) (U : Nat) (g : Nat → Int) (x y : Int) (e : Nat → Int) : Prop :=
  Vals wr w.heap.size g ∧ Leaf wr U x y e ∧ w.heap.size < U ∧ U < wr.heap.size ∧ Below w.heap.size w wr
theorem At.set_same {w : World} {b o : Nat} {v : Value} (h : At w b o v) (u : Value) : At (w.setCell ⟨b, o, none⟩ u) b o u :=
  ⟨World.cell?_setCell_same _ _ _ h.1, by simpa using h.2⟩
theorem At.set_other {w : World} {b o : Nat} {v : Value} (h : At w b o v) {b' o' : Nat} (hne : b' ≠ b ∨ o' ≠ o) (u : Value) : At (w.setCell ⟨b', o', none⟩ u) b o v := by
  refine ⟨?_, by simpa using h.2⟩
  rw [World.cell?_setCell_other _ _ _ _ ?_]
  · exact h.1
  · simp only [ne_eq, Addr.mk.injEq, and_true]; omega
theorem At.later {w w' : World} {B b o : Nat} {v : Value} (h : At w b o v) (hb : Below B w w') (hB : b < B) : At w' b o v :=
  ⟨((bcell hb).1 _ _ hB).trans h.1, ((bcell hb).2 _ _ hB).trans h.2⟩
theorem At.new {w : World} {c : Array Value} {t : TypeId} {o : Nat} {v : Value} (h : c[o]? = some v) : At (w.alloc (.cells c t)) w.heap.size o v := by
  refine ⟨?_, ?_⟩
  · simp [h]
  · simp
theorem S2.start {w w2 : World} {g : Nat → Int} (h : S1 w w2 g) : S2 w (w2.alloc (.cells leafZ 41)) w2.heap.size g 0 0 (fun _ => 0) := by
  obtain ⟨h1, h2, h3⟩ := h
  have ha : Below w2.heap.size w2 (w2.alloc (.cells leafZ 41)) := (Below.refl _ _).alloc (Nat.le_refl _) _
  refine ⟨fun i hi => At.later (h1 i hi) ha (by omega), ⟨At.new leafZ_0, At.new leafZ_1, fun i hi => ⟨At.new (leafZ_e i hi).1, At.new (leafZ_e i hi).2⟩⟩, by omega, by simp, h3.alloc (by omega) _⟩
theorem S2.later {w wr w' : World} {U : Nat} {g e : Nat → Int} {x y : Int} (h : S2 w wr U g x y e) (hb : Below wr.heap.size wr w') : S2 w w' U g x y e := by
  obtain ⟨h1, ⟨l0, l1, l2⟩, h3, h4, h5⟩ := h
  have hz := hb.size
  exact ⟨fun i hi => At.later (h1 i hi) hb (by omega), ⟨l0.later hb h4, l1.later hb h4, fun i hi => ⟨(l2 i hi).1.later hb h4, (l2 i hi).2.later hb h4⟩⟩, h3, by omega, h5.trans (hb.mono (by omega))⟩
theorem S2.set {w wr : World} {U : Nat} {g e : Nat → Int} {x y : Int} (h : S2 w wr U g x y e) (k : Nat) (hk : k < 64) (v : Int) :
    S2 w ((wr.setCell ⟨U, 8 + k * 6, none⟩ (.int .u64 0)).setCell ⟨U, 8 + k * 6 + 1, none⟩ (.int .u64 v)) U g x y (put e k v) := by
  obtain ⟨h1, ⟨l0, l1, l2⟩, h3, h4, h5⟩ := h
  refine ⟨fun i hi => ((show At wr w.heap.size i _ from h1 i hi).set_other (by omega) _).set_other (by omega) _, ⟨(l0.set_other (by omega) _).set_other (by omega) _, (l1.set_other (by omega) _).set_other (by omega) _, fun i hi => ?_⟩, h3, by simpa using h4, (h5.setCell (by simp; omega) _).setCell (by simp; omega) _⟩
  obtain ⟨m0, m1⟩ := l2 i hi
  by_cases hik : i = k
  · subst hik
    refine ⟨(m0.set_same _).set_other (by omega) _, ?_⟩
    simp only [put, if_true]
    exact (m1.set_other (by omega) _).set_same _
  · refine ⟨(m0.set_other (by omega) _).set_other (by omega) _, ?_⟩
    simp only [put, hik, if_false]
    exact (m1.set_other (by omega) _).set_other (by omega) _
theorem S2.set0 {w wr : World} {U : Nat} {g e : Nat → Int} {x y : Int} (h : S2 w wr U g x y e) (u v : Int) :
    S2 w ((wr.setCell ⟨U, 0, none⟩ (.int .i64 u)).setCell ⟨U, 1, none⟩ (.int .i64 v)) U g u v e := by
  obtain ⟨h1, ⟨l0, l1, l2⟩, h3, h4, h5⟩ := h
  exact ⟨fun i hi => ((show At wr w.heap.size i _ from h1 i hi).set_other (by omega) _).set_other (by omega) _, ⟨(l0.set_same _).set_other (by omega) _, (l1.set_other (by omega) _).set_same _, fun i hi => ⟨((l2 i hi).1.set_other (by omega) _).set_other (by omega) _, ((l2 i hi).2.set_other (by omega) _).set_other (by omega) _⟩⟩, h3, by simpa using h4, (h5.setCell (by simp; omega) _).setCell (by simp; omega) _⟩
theorem S2.same {w wr : World} {U : Nat} {g e : Nat → Int} {x y : Int} (h : S2 w wr U g x y e) (he : ∀ j, j < 64 → e j = g j) : S2 w wr U g x y g := by
  obtain ⟨h1, ⟨l0, l1, l2⟩, h3⟩ := h
  exact ⟨h1, ⟨l0, l1, fun i hi => ⟨(l2 i hi).1, he i hi ▸ (l2 i hi).2⟩⟩, h3⟩
theorem better_said_buy (L : Nat) (s : Int) (hs : (s == 0) = true) : BetterSaid L s (fun x y => decide (y < x)) := by
  intro x y w h1 h2
  have : s = 0 := by simpa using hs
  subst this
  exact better_buy L x y w h1 h2
theorem better_said_sell (L : Nat) (s : Int) (hs : (s == 0) = false) : BetterSaid L s (fun x y => decide (x < y)) := by
  intro x y w h1 h2
  exact better_sell L x y s hs w h1 h2
/-- ... and the ladder in block L, of which only its side is read. -/
def S3 (w wr : World) (U L : Nat) (g : Nat → Int) (x y s : Int) : Prop := S2 w wr U g x y g ∧ At wr L 1 (.int .u8 s) ∧ L < wr.heap.size
theorem S3.later {w wr w' : World} {U L : Nat} {g : Nat → Int} {x y s : Int} (h : S3 w wr U L g x y s) (hb : Below wr.heap.size wr w') : S3 w w' U L g x y s := by
  have hz := hb.size
  exact ⟨h.1.later hb, h.2.1.later hb h.2.2, by have := h.2.2; omega⟩
theorem S3.start {w w3 : World} {U : Nat} {g : Nat → Int} (h : S2 w w3 U g 0 0 g) (x y s : Int) :
    S3 w (((w3.setCell ⟨U, 0, none⟩ (.int .i64 x)).setCell ⟨U, 1, none⟩ (.int .i64 y)).alloc (.cells #[.map none, .int .u8 s, .pointer none, .pointer none, .pointer none, .int .u64 0, .int .u64 0, .pointer none, .int .i64 0, .bool false] 48)) U w3.heap.size g x y s := by
  refine ⟨(h.set0 x y).later ((Below.refl _ _).alloc (Nat.le_refl _) _), ?_, by simp⟩
  have := At.new (w := (w3.setCell ⟨U, 0, none⟩ (.int .i64 x)).setCell ⟨U, 1, none⟩ (.int .i64 y)) (c := #[.map none, .int .u8 s, .pointer none, .pointer none, .pointer none, .int .u64 0, .int .u64 0, .pointer none, .int .i64 0, .bool false]) (t := 48) (o := 1) (v := .int .u8 s) rfl
  simpa using this
theorem S3.laterD {w wr w' : World} {U L : Nat} {g : Nat → Int} {x y s : Int} (h : S3 w wr U L g x y s) (hb : Below wr.drew.heap.size wr.drew w') : S3 w w' U L g x y s :=
  h.later ((Below.refl wr.heap.size wr).drew.trans hb)
theorem neq_am (n : Int) (w : World) : (binOp .neq 31 (am n) (am n)).run Ybad.prog w = .ok (.bool false) w := by
  simp [go_sem, am]
theorem S3.pos {w wr : World} {U L : Nat} {g : Nat → Int} {x y s : Int} (h : S3 w wr U L g x y s) : 0 < wr.heap.size := by have := h.2.2; omega
theorem S3.pow {w wr : World} {U L : Nat} {g : Nat → Int} {x y s : Int} (h : S3 w wr U L g x y s) (hB : 0 < w.heap.size) (hp : w.cell? ⟨0, 0, none⟩ = some (.int .u64 1)) : wr.cell? ⟨0, 0, none⟩ = some (.int .u64 1) :=
  ((bcell h.1.2.2.2.2).1 _ _ hB).trans hp
end Go.Proofs.YbulkdqteDoor.B
