/-
  LawS5887BWhole: the law's six ways.
-/
import Derived.Test.YbulkdqwyTimes
namespace Go.Proofs.Ybulkdqwy.M
open Go.RowKit
set_option linter.unusedVariables false
set_option linter.unusedSimpArgs false
theorem Num.later {w w' : World} {P S : Nat} {n : Bool} {a : Int} (h : Num w P S n a) (hb : Below w.heap.size w w') : Num w' P S n a := by
  obtain ⟨h0, ⟨rfl, rfl, e⟩ | ⟨ha, hb', hne, e, hS⟩⟩ := h
  · exact ⟨h0.later hb h0.lt, Or.inl ⟨rfl, rfl, e.later hb e.lt⟩⟩
  · exact ⟨h0.later hb h0.lt, Or.inr ⟨ha, hb', hne, e.later hb e.lt, hS.later hb hS.lt⟩⟩
/-- What NewInt leaves. -/
def NewAt (v : Int) (w w' : World) (P S : Nat) (n : Bool) (a : Int) : Prop := sv n a = v ∧ (0 ≤ a ∧ a ≤ 2147483648) ∧ Num w' P S n a ∧ Below w.heap.size w w' ∧ (w.heap.size ≤ P ∧ w.heap.size ≤ S ∧ P < w'.heap.size ∧ S < w'.heap.size)
theorem new_at (v : Int) (h1 : -2147483648 ≤ v) (h2 : v ≤ 2147483647) (w : World) :
    Calls Yba.prog 4 #[.int .i64 v] w fun e w' => ∃ P S n a, e = .returned (pt P) ∧ NewAt v w w' P S n a := newInt_any v h1 h2 w
/-- P holds v, and is read. -/
def Reads (w : World) (P : Nat) (v : Int) : Prop := ∃ k r, Got w P k r ∧ r ≤ 8589934591 ∧ sv k r = v
theorem int64_reads {w : World} {P : Nat} {v : Int} (h : Reads w P v) : Calls Yba.prog 7 #[pt P] w fun e w' => e = .returned (.int .i64 v) ∧ w' = w := by
  obtain ⟨k, r, hg, hr, hs⟩ := h
  exact int64_any P k r v w hg hr hs
theorem bitLen_reads {w : World} {P : Nat} {v : Int} (h : Reads w P v) : Calls Yba.prog 6 #[pt P] w fun e w' => ∃ k, e = .returned (.int .i64 k) ∧ decide (63 < k) = false ∧ w' = w := by
  obtain ⟨k, r, hg, hr, hs⟩ := h
  exact bitLen_any P k r w hg hr
theorem Out.reads {B : Nat} {w : World} {P S : Nat} {v : Int} {w' : World} (h : Out B w P S v w') (h1 : -8589934591 ≤ v) (h2 : v ≤ 8589934591) : Reads w' P v := by
  obtain ⟨k, r, hl, hs⟩ := h
  refine ⟨k, r, hl.1, ?_, hs⟩
  unfold sv at hs
  cases k <;> simp at hs <;> omega
theorem Out.below {B : Nat} {w : World} {P S : Nat} {v : Int} {w' : World} (h : Out B w P S v w') : Below B w w' := by
  obtain ⟨k, r, hl, hs⟩ := h
  exact hl.2.1
theorem Out.keeps {B : Nat} {w : World} {P S Q Y : Nat} {v : Int} {w' : World} {m : Bool} {b : Int} (h : Out B w P S v w') (hQ : Num w Q Y m b) (hb : b ≤ 2147483648) (h1 : Q ≠ P) (h2 : Q ≠ S) (h3 : Y ≠ P) (h4 : Y ≠ S) : Reads w' Q (sv m b) := by
  obtain ⟨k, r, hl, hs⟩ := h
  exact ⟨m, b, (hQ.keep hl.2.2 h1 h2 h3 h4).got, by omega, rfl⟩
/-- The three worlds ahead of addTimes: sum and x are there. -/
theorem ahead {a0 a2 : Int} {w w1 w2 : World} {P S Q Y : Nat} {n m : Bool} {a b : Int} (hP : NewAt a0 w w1 P S n a) (hQ : NewAt a2 w1 w2 Q Y m b) :
    sv n a = a0 ∧ sv m b = a2 ∧ b ≤ 2147483648 ∧ Num w2 P S n a ∧ Num w2 Q Y m b ∧ Below w.heap.size w w2 ∧ w.heap.size ≤ P ∧ w.heap.size ≤ S ∧ w.heap.size ≤ w2.heap.size ∧ Q ≠ P ∧ Q ≠ S ∧ Y ≠ P ∧ Y ≠ S := by
  obtain ⟨e1, ⟨_, _⟩, n1, b1, p1, p2, p3, p4⟩ := hP
  obtain ⟨e2, ⟨_, i2⟩, n2, b2, q1, q2, q3, q4⟩ := hQ
  have s1 := b1.size
  have s2 := b2.size
  exact ⟨e1, e2, i2, n1.later b2, n2, b1.trans (b2.mono s1), p1, p2, by omega, by omega, by omega, by omega, by omega⟩
set_option maxRecDepth 100000 in
set_option maxHeartbeats 1000000 in
theorem law_own_1 (a0 a2 : Int) (h1 : -2147483648 ≤ a0) (h2 : a0 ≤ 2147483647) (h3 : -2147483648 ≤ a2) (h4 : a2 ≤ 2147483647) (w : World) :
    Calls Yba.prog 3 #[.int .i32 a0, .int .i64 1, .int .i32 a2, .bool false] w fun e w' => e = .returned (.bool true) ∧ Below w.heap.size w w' := by
  go_enter Yba.func3, Yba.ntmps3
  go_wp2_with (first
    | (go_at_call 4; refine (new_at a2 h3 h4 w1).mono ?_; rintro _ w2 ⟨Q, Y, m, b, rfl, hQ⟩)
    | (go_at_call 4; refine (new_at a0 h1 h2 w).mono ?_; rintro _ w1 ⟨P, S, n, a, rfl, hP⟩))
  obtain ⟨e1, e2, hb2, hnP, hnQ, gB, gP, gS, gw, d1, d2, d3, d4⟩ := ahead hP hQ
  have ht := times_1 w.heap.size P Q S Y n m a b w2 hnP hnQ gP gS gw
  rw [e1, e2] at ht
  refine ht.mono ?_
  clear ht
  rintro _ w3 ⟨rfl, ho⟩
  have gb3 := gB.trans ho.below
  have rs := ho.reads (by omega) (by omega)
  have rx := ho.keeps hnQ hb2 d1 d2 d3 d4
  rw [e2] at rx
  clear ho hnP hnQ hP hQ gB d1 d2 d3 d4
  go_wp2_with (first
    | (go_at_call_of 6 (pt P); refine (bitLen_reads rs).mono ?_; rintro _ _ ⟨k, rfl, hk, rfl⟩)
    | (go_at_call_of 7 (pt P); refine (int64_reads rs).mono ?_; rintro _ _ ⟨rfl, rfl⟩)
    | (go_at_call_of 6 (pt Q); refine (bitLen_reads rx).mono ?_; rintro _ _ ⟨k', rfl, hk', rfl⟩)
    | (go_at_call_of 7 (pt Q); refine (int64_reads rx).mono ?_; rintro _ _ ⟨rfl, rfl⟩))
  go_ret
  exact ⟨rfl, gb3⟩
set_option maxRecDepth 100000 in
set_option maxHeartbeats 1000000 in
theorem law_own_neg (a0 a2 : Int) (h1 : -2147483648 ≤ a0) (h2 : a0 ≤ 2147483647) (h3 : -2147483648 ≤ a2) (h4 : a2 ≤ 2147483647) (w : World) :
    Calls Yba.prog 3 #[.int .i32 a0, .int .i64 (-1), .int .i32 a2, .bool false] w fun e w' => e = .returned (.bool true) ∧ Below w.heap.size w w' := by
  go_enter Yba.func3, Yba.ntmps3
  go_wp2_with (first
    | (go_at_call 4; refine (new_at a2 h3 h4 w1).mono ?_; rintro _ w2 ⟨Q, Y, m, b, rfl, hQ⟩)
    | (go_at_call 4; refine (new_at a0 h1 h2 w).mono ?_; rintro _ w1 ⟨P, S, n, a, rfl, hP⟩))
  obtain ⟨e1, e2, hb2, hnP, hnQ, gB, gP, gS, gw, d1, d2, d3, d4⟩ := ahead hP hQ
  have ht := times_neg w.heap.size P Q S Y n m a b w2 hnP hnQ gP gS gw
  rw [e1, e2] at ht
  refine ht.mono ?_
  clear ht
  rintro _ w3 ⟨rfl, ho⟩
  have gb3 := gB.trans ho.below
  have rs := ho.reads (by omega) (by omega)
  have rx := ho.keeps hnQ hb2 d1 d2 d3 d4
  rw [e2] at rx
  clear ho hnP hnQ hP hQ gB d1 d2 d3 d4
  go_wp2_with (first
    | (go_at_call_of 6 (pt P); refine (bitLen_reads rs).mono ?_; rintro _ _ ⟨k, rfl, hk, rfl⟩)
    | (go_at_call_of 7 (pt P); refine (int64_reads rs).mono ?_; rintro _ _ ⟨rfl, rfl⟩)
    | (go_at_call_of 6 (pt Q); refine (bitLen_reads rx).mono ?_; rintro _ _ ⟨k', rfl, hk', rfl⟩)
    | (go_at_call_of 7 (pt Q); refine (int64_reads rx).mono ?_; rintro _ _ ⟨rfl, rfl⟩))
  go_ret
  exact ⟨rfl, gb3⟩
set_option maxRecDepth 100000 in
set_option maxHeartbeats 1000000 in
theorem law_own_0 (a0 a2 : Int) (t : Int) (b1 : (t == 1) = false) (b2 : (t == -1) = false) (h1 : -2147483648 ≤ a0) (h2 : a0 ≤ 2147483647) (h3 : -2147483648 ≤ a2) (h4 : a2 ≤ 2147483647) (w : World) :
    Calls Yba.prog 3 #[.int .i32 a0, .int .i64 t, .int .i32 a2, .bool false] w fun e w' => e = .returned (.bool true) ∧ Below w.heap.size w w' := by
  go_enter Yba.func3, Yba.ntmps3
  go_wp2_with (first
    | (go_at_call 4; refine (new_at a2 h3 h4 w1).mono ?_; rintro _ w2 ⟨Q, Y, m, b, rfl, hQ⟩)
    | (go_at_call 4; refine (new_at a0 h1 h2 w).mono ?_; rintro _ w1 ⟨P, S, n, a, rfl, hP⟩))
  obtain ⟨e1, e2, hb2, hnP, hnQ, gB, gP, gS, gw, d1, d2, d3, d4⟩ := ahead hP hQ
  have ht := times_0 t b1 b2 w.heap.size P Q S n a w2 hnP
  rw [e1] at ht
  refine ht.mono ?_
  clear ht
  rintro _ w3 ⟨rfl, ho⟩
  have gb3 := gB.trans ho.below
  have rs := ho.reads (by omega) (by omega)
  have rx := ho.keeps hnQ hb2 d1 d2 d3 d4
  rw [e2] at rx
  clear ho hnP hnQ hP hQ gB d1 d2 d3 d4
  go_wp2_with (first
    | (go_at_call_of 6 (pt P); refine (bitLen_reads rs).mono ?_; rintro _ _ ⟨k, rfl, hk, rfl⟩)
    | (go_at_call_of 7 (pt P); refine (int64_reads rs).mono ?_; rintro _ _ ⟨rfl, rfl⟩)
    | (go_at_call_of 6 (pt Q); refine (bitLen_reads rx).mono ?_; rintro _ _ ⟨k', rfl, hk', rfl⟩)
    | (go_at_call_of 7 (pt Q); refine (int64_reads rx).mono ?_; rintro _ _ ⟨rfl, rfl⟩))
  go_ret
  exact ⟨rfl, gb3⟩
set_option maxRecDepth 100000 in
set_option maxHeartbeats 1000000 in
theorem law_same_1 (a0 a2 : Int) (h1 : -2147483648 ≤ a0) (h2 : a0 ≤ 2147483647) (h3 : -2147483648 ≤ a2) (h4 : a2 ≤ 2147483647) (w : World) :
    Calls Yba.prog 3 #[.int .i32 a0, .int .i64 1, .int .i32 a2, .bool true] w fun e w' => e = .returned (.bool true) ∧ Below w.heap.size w w' := by
  go_enter Yba.func3, Yba.ntmps3
  go_wp2_with (first
    | (go_at_call 4; refine (new_at a2 h3 h4 w1).mono ?_; rintro _ w2 ⟨Q, Y, m, b, rfl, hQ⟩)
    | (go_at_call 4; refine (new_at a0 h1 h2 w).mono ?_; rintro _ w1 ⟨P, S, n, a, rfl, hP⟩))
  obtain ⟨e1, e2, hb2, hnP, hnQ, gB, gP, gS, gw, d1, d2, d3, d4⟩ := ahead hP hQ
  have ht := times_1 w.heap.size P P S S n n a a w2 hnP hnP gP gS gw
  rw [e1] at ht
  refine ht.mono ?_
  clear ht
  rintro _ w3 ⟨rfl, ho⟩
  have gb3 := gB.trans ho.below
  have rs := ho.reads (by omega) (by omega)
  clear ho hnP hnQ hP hQ gB d1 d2 d3 d4
  go_wp2_with (first
    | (go_at_call 6; refine (bitLen_reads rs).mono ?_; rintro _ _ ⟨k, rfl, hk, rfl⟩)
    | (go_at_call 7; refine (int64_reads rs).mono ?_; rintro _ _ ⟨rfl, rfl⟩))
  go_ret
  exact ⟨rfl, gb3⟩
set_option maxRecDepth 100000 in
set_option maxHeartbeats 1000000 in
theorem law_same_neg (a0 a2 : Int) (h1 : -2147483648 ≤ a0) (h2 : a0 ≤ 2147483647) (h3 : -2147483648 ≤ a2) (h4 : a2 ≤ 2147483647) (w : World) :
    Calls Yba.prog 3 #[.int .i32 a0, .int .i64 (-1), .int .i32 a2, .bool true] w fun e w' => e = .returned (.bool true) ∧ Below w.heap.size w w' := by
  go_enter Yba.func3, Yba.ntmps3
  go_wp2_with (first
    | (go_at_call 4; refine (new_at a2 h3 h4 w1).mono ?_; rintro _ w2 ⟨Q, Y, m, b, rfl, hQ⟩)
    | (go_at_call 4; refine (new_at a0 h1 h2 w).mono ?_; rintro _ w1 ⟨P, S, n, a, rfl, hP⟩))
  obtain ⟨e1, e2, hb2, hnP, hnQ, gB, gP, gS, gw, d1, d2, d3, d4⟩ := ahead hP hQ
  have ht := times_neg w.heap.size P P S S n n a a w2 hnP hnP gP gS gw
  rw [e1] at ht
  refine ht.mono ?_
  clear ht
  rintro _ w3 ⟨rfl, ho⟩
  have gb3 := gB.trans ho.below
  have rs := ho.reads (by omega) (by omega)
  clear ho hnP hnQ hP hQ gB d1 d2 d3 d4
  go_wp2_with (first
    | (go_at_call 6; refine (bitLen_reads rs).mono ?_; rintro _ _ ⟨k, rfl, hk, rfl⟩)
    | (go_at_call 7; refine (int64_reads rs).mono ?_; rintro _ _ ⟨rfl, rfl⟩))
  go_ret
  exact ⟨rfl, gb3⟩
set_option maxRecDepth 100000 in
set_option maxHeartbeats 1000000 in
theorem law_same_0 (a0 a2 : Int) (t : Int) (b1 : (t == 1) = false) (b2 : (t == -1) = false) (h1 : -2147483648 ≤ a0) (h2 : a0 ≤ 2147483647) (h3 : -2147483648 ≤ a2) (h4 : a2 ≤ 2147483647) (w : World) :
    Calls Yba.prog 3 #[.int .i32 a0, .int .i64 t, .int .i32 a2, .bool true] w fun e w' => e = .returned (.bool true) ∧ Below w.heap.size w w' := by
  go_enter Yba.func3, Yba.ntmps3
  go_wp2_with (first
    | (go_at_call 4; refine (new_at a2 h3 h4 w1).mono ?_; rintro _ w2 ⟨Q, Y, m, b, rfl, hQ⟩)
    | (go_at_call 4; refine (new_at a0 h1 h2 w).mono ?_; rintro _ w1 ⟨P, S, n, a, rfl, hP⟩))
  obtain ⟨e1, e2, hb2, hnP, hnQ, gB, gP, gS, gw, d1, d2, d3, d4⟩ := ahead hP hQ
  have ht := times_0 t b1 b2 w.heap.size P P S n a w2 hnP
  rw [e1] at ht
  refine ht.mono ?_
  clear ht
  rintro _ w3 ⟨rfl, ho⟩
  have gb3 := gB.trans ho.below
  have rs := ho.reads (by omega) (by omega)
  clear ho hnP hnQ hP hQ gB d1 d2 d3 d4
  go_wp2_with (first
    | (go_at_call 6; refine (bitLen_reads rs).mono ?_; rintro _ _ ⟨k, rfl, hk, rfl⟩)
    | (go_at_call 7; refine (int64_reads rs).mono ?_; rintro _ _ ⟨rfl, rfl⟩))
  go_ret
  exact ⟨rfl, gb3⟩
end Go.Proofs.Ybulkdqwy.M
