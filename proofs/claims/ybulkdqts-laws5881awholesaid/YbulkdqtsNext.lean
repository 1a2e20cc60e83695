/-
  (*tcpConn).madeRoom and (*tcpConn).next: contracts over the cells of a connection: stopped or not, with bytes left or none.
-/
import Derived.Test.YbulkdqtsRows
import Derived.Test.YbulkdqtsLocks
import Derived.Test.YbulkdqtsClosed
import Derived.Conc.MuLone
import Derived.WalkKit
import Derived.Defers
import Derived.Deep.QuietTactic
import Derived.BigQuiet
namespace Go.Proofs.Ybulkdqts.E
open Go.Conc Go.RowKit Go.MuLone
theorem hidIt {p : Prop} (h : p) : Hid p := h
/-- A cell that is there and may be written. -/
def At (w : World) (b o : Nat) (v : Value) : Prop := w.cell? ⟨b, o, none⟩ = some v ∧ w.frozen? ⟨b, o, none⟩ = false
/-- Nothing but the blocks of S has turned. -/
structure Kept (S : Nat → Prop) (w w' : World) : Prop where
  os : w'.os = w.os
  tape : w'.tape = w.tape
  output : w'.output = w.output
  size : w'.heap.size = w.heap.size
  block : ∀ k, ¬ S k → w'.heap[k]? = w.heap[k]?
theorem Kept.refl (S : Nat → Prop) (w : World) : Kept S w w := ⟨rfl, rfl, rfl, rfl, fun _ _ => rfl⟩
theorem Kept.trans {S : Nat → Prop} {a b c : World} (h : Kept S a b) (k : Kept S b c) : Kept S a c :=
  ⟨k.os.trans h.os, k.tape.trans h.tape, k.output.trans h.output, k.size.trans h.size, fun i hi => (k.block i hi).trans (h.block i hi)⟩
theorem heap_setCell_other (w : World) (b o : Nat) (v : Value) (k : Nat) (h : k ≠ b) : (w.setCell ⟨b, o, none⟩ v).heap[k]? = w.heap[k]? := by
  simp only [World.setCell, Array.getElem?_modify]
  rw [if_neg (fun e => h e.symm)]
theorem Kept.set {S : Nat → Prop} {a w : World} (h : Kept S a w) {b : Nat} (hb : S b) (o : Nat) (v : Value) : Kept S a (w.setCell ⟨b, o, none⟩ v) :=
  h.trans ⟨rfl, rfl, rfl, by simp, fun k hk => heap_setCell_other _ _ _ _ _ (fun e => hk (e ▸ hb))⟩
theorem Kept.drewN {S : Nat → Prop} {a w : World} (h : Kept S a w) (n : Nat) : Kept S a (w.drewN n) := h.trans ⟨rfl, rfl, rfl, rfl, fun _ _ => rfl⟩
theorem heap_setChan_other (w : World) (c cap : Nat) (buf : Array Value) (cl : Bool) (s r : Nat) (tm : Bool) (k : Nat) (h : k ≠ c) : (w.setChan c cap buf cl s r tm).heap[k]? = w.heap[k]? := by
  simp [World.setChan, Array.getElem?_setIfInBounds_ne (fun e => h e.symm)]
theorem Kept.chan {S : Nat → Prop} {a w : World} (h : Kept S a w) {c : Nat} (hc : S c) (cap : Nat) (buf : Array Value) (cl : Bool) (s r : Nat) (tm : Bool) : Kept S a (w.setChan c cap buf cl s r tm) :=
  h.trans ⟨rfl, rfl, rfl, by simp [World.setChan], fun k hk => heap_setChan_other _ _ _ _ _ _ _ _ _ (fun e => hk (e ▸ hc))⟩
theorem Kept.at {S : Nat → Prop} {w w' : World} (h : Kept S w w') {b o : Nat} {v : Value} (hb : ¬ S b) (ha : At w b o v) : At w' b o v := by
  unfold At World.cell? World.frozen? at *
  simp only [h.block b hb]
  exact ha
theorem Kept.below {S : Nat → Prop} {w w' : World} (h : Kept S w w') {B : Nat} (hS : ∀ b, S b → B ≤ b) : Below B w w' :=
  ⟨h.os, h.tape, h.output, Nat.le_of_eq h.size.symm, fun k hk => h.block k (fun hs => by have := hS k hs; omega)⟩
theorem At.set_same {w : World} {b o : Nat} {v : Value} (h : At w b o v) (u : Value) : At (w.setCell ⟨b, o, none⟩ u) b o u :=
  ⟨World.cell?_setCell_same _ _ _ h.1, by simpa using h.2⟩
theorem At.set_other {w : World} {b o : Nat} {v : Value} (h : At w b o v) {b' o' : Nat} (hne : b' ≠ b ∨ o' ≠ o) (u : Value) : At (w.setCell ⟨b', o', none⟩ u) b o v := by
  refine ⟨?_, by simpa using h.2⟩
  rw [World.cell?_setCell_other _ _ _ _ ?_]
  · exact h.1
  · simp only [ne_eq, Addr.mk.injEq, and_true]; omega
theorem At.chan {w : World} {b o : Nat} {v : Value} (h : At w b o v) {c : Nat} (hne : b ≠ c) (cap : Nat) (buf : Array Value) (cl : Bool) (s r : Nat) (tm : Bool) : At (w.setChan c cap buf cl s r tm) b o v :=
  (Kept.chan (S := fun k => k = c) (Kept.refl _ w) rfl cap buf cl s r tm).at hne h
theorem At.drewN {w : World} {b o : Nat} {v : Value} (h : At w b o v) (n : Nat) : At (w.drewN n) b o v := (Kept.drewN (Kept.refl (fun _ => False) w) n).at (fun h => h) h
theorem close_run (ats : Array TypeId) (ty : TypeId) (r : Nat) (w : World) (hc : w.heap[r]? = some (.chan 0 #[] false 0 0 false)) :
    (Builtin.close_ ats ty #[.chan (some r)]).run Yba.prog w = .ok (.tuple #[]) (w.setChan r 0 #[] true 0 0 false) := run_close_open ats ty hc
theorem neq_some (r : Nat) (w : World) : (binOp .neq 26 (.chan (some r)) (.chan none)).run Yba.prog w = .ok (.bool true) w := by kernel_rfl
theorem neq_none (w : World) : (binOp .neq 26 (.chan none) (.chan none)).run Yba.prog w = .ok (.bool false) w := by kernel_rfl
set_option maxRecDepth 100000 in
theorem room_none (C : Nat) (w : World) (c7 : At w C 7 (.chan none)) : Calls Yba.prog 9 #[.pointer (some ⟨C, 0, none⟩)] w fun e w' => e = .returned (.tuple #[]) ∧ w' = w := by
  obtain ⟨c7, f7⟩ := c7
  have h1 := neq_none
  go_enter Yba.func9, Yba.ntmps9
  go_wp2
  go_end0
  exact ⟨rfl, rfl⟩
set_option maxRecDepth 100000 in
theorem room_some (C r : Nat) (w : World) (c7 : At w C 7 (.chan (some r))) (hc : w.heap[r]? = some (.chan 0 #[] false 0 0 false)) (hne : C ≠ r) :
    Calls Yba.prog 9 #[.pointer (some ⟨C, 0, none⟩)] w fun e w' => e = .returned (.tuple #[]) ∧ w' = (w.setChan r 0 #[] true 0 0 false).setCell ⟨C, 7, none⟩ (.chan none) := by
  obtain ⟨x7, y7⟩ := c7.chan hne 0 #[] true 0 0 false
  obtain ⟨c7, f7⟩ := c7
  have h1 := neq_some r
  have h2 := fun ats ty => close_run ats ty r w hc
  go_enter Yba.func9, Yba.ntmps9
  go_wp2
  go_end0
  exact ⟨rfl, rfl⟩
/-- The blocks that 'next' may turn: the connection's, and its channel's. -/
def Mine (C : Nat) (ch : Option Nat) (b : Nat) : Prop := b = C ∨ ch = some b
theorem room_any (C : Nat) (ch : Option Nat) (w : World) (c7 : At w C 7 (.chan ch)) (hc : ∀ r, ch = some r → C ≠ r ∧ w.heap[r]? = some (.chan 0 #[] false 0 0 false)) :
    Calls Yba.prog 9 #[.pointer (some ⟨C, 0, none⟩)] w fun e w' => e = .returned (.tuple #[]) ∧ Kept (Mine C ch) w w' ∧ (∀ o v, o ≠ 7 → At w C o v → At w' C o v) ∧ At w' C 7 (.chan none) ∧ (∀ r, ch = some r → w'.heap[r]? = some (.chan 0 #[] true 0 0 false)) := by
  cases ch with
  | none =>
    refine (room_none C w c7).mono ?_
    rintro e w' ⟨rfl, rfl⟩
    exact ⟨rfl, Kept.refl _ _, fun _ _ _ h => h, c7, fun r h => by cases h⟩
  | some r =>
    obtain ⟨hne, hr⟩ := hc r rfl
    refine (room_some C r w c7 hr hne).mono ?_
    rintro e w' ⟨rfl, rfl⟩
    refine ⟨rfl, Kept.set (Kept.chan (Kept.refl _ _) (.inr rfl) _ _ _ _ _ _) (.inl rfl) _ _, fun o v ho h => (h.chan hne 0 #[] true 0 0 false).set_other (.inr (by omega)) _, (c7.chan hne 0 #[] true 0 0 false).set_same _, fun r' h => ?_⟩
    cases h
    rw [heap_setCell_other _ _ _ _ _ (fun e => hne e.symm)]
    have hlt : r < w.heap.size := by
      rcases Nat.lt_or_ge r w.heap.size with h | h
      · exact h
      · rw [Array.getElem?_eq_none h] at hr; cases hr
    exact heap_setChan w r 0 #[] true 0 0 false hlt
/-- The connection in block C: its lock's word, what waits, whether it writes, its channel, whether it is stopped. -/
def Conn (w : World) (C : Nat) (l : Int) (v : Value) (wr : Bool) (ch : Option Nat) (st : Bool) : Prop :=
  At w C 0 (.string ⟨#[110]⟩) ∧ At w C 1 .nilIface ∧ At w C 2 (.string ⟨#[112]⟩) ∧ At w C 3 (.int .i32 l) ∧ At w C 5 v ∧ At w C 6 (.bool wr) ∧ At w C 7 (.chan ch) ∧ At w C 8 (.bool st)
section
variable {w : World} {C : Nat} {l : Int} {v : Value} {wr : Bool} {ch : Option Nat} {st : Bool}
theorem Conn.lock (h : Conn w C l v wr ch st) (l' : Int) : Conn (w.setCell ⟨C, 3, none⟩ (.int .i32 l')) C l' v wr ch st := by
  obtain ⟨h0, h1, h2, h3, h5, h6, h7, h8⟩ := h
  exact ⟨h0.set_other (by omega) _, h1.set_other (by omega) _, h2.set_other (by omega) _, h3.set_same _, h5.set_other (by omega) _, h6.set_other (by omega) _, h7.set_other (by omega) _, h8.set_other (by omega) _⟩
theorem Conn.wait (h : Conn w C l v wr ch st) (v' : Value) : Conn (w.setCell ⟨C, 5, none⟩ v') C l v' wr ch st := by
  obtain ⟨h0, h1, h2, h3, h5, h6, h7, h8⟩ := h
  exact ⟨h0.set_other (by omega) _, h1.set_other (by omega) _, h2.set_other (by omega) _, h3.set_other (by omega) _, h5.set_same _, h6.set_other (by omega) _, h7.set_other (by omega) _, h8.set_other (by omega) _⟩
theorem Conn.writ (h : Conn w C l v wr ch st) (b : Bool) : Conn (w.setCell ⟨C, 6, none⟩ (.bool b)) C l v b ch st := by
  obtain ⟨h0, h1, h2, h3, h5, h6, h7, h8⟩ := h
  exact ⟨h0.set_other (by omega) _, h1.set_other (by omega) _, h2.set_other (by omega) _, h3.set_other (by omega) _, h5.set_other (by omega) _, h6.set_same _, h7.set_other (by omega) _, h8.set_other (by omega) _⟩
theorem Conn.drewN (h : Conn w C l v wr ch st) (n : Nat) : Conn (w.drewN n) C l v wr ch st := by
  obtain ⟨h0, h1, h2, h3, h5, h6, h7, h8⟩ := h
  exact ⟨h0.drewN _, h1.drewN _, h2.drewN _, h3.drewN _, h5.drewN _, h6.drewN _, h7.drewN _, h8.drewN _⟩
theorem Conn.room {w' : World} (h : Conn w C l v wr ch st) (hk : ∀ o v, o ≠ 7 → At w C o v → At w' C o v) (hn : At w' C 7 (.chan none)) : Conn w' C l v wr none st := by
  obtain ⟨h0, h1, h2, h3, h5, h6, h7, h8⟩ := h
  exact ⟨hk _ _ (by omega) h0, hk _ _ (by omega) h1, hk _ _ (by omega) h2, hk _ _ (by omega) h3, hk _ _ (by omega) h5, hk _ _ (by omega) h6, hn, hk _ _ (by omega) h8⟩
theorem Conn.c3 (h : Conn w C l v wr ch st) : At w C 3 (.int .i32 l) := h.2.2.2.1
theorem Conn.c5 (h : Conn w C l v wr ch st) : At w C 5 v := h.2.2.2.2.1
theorem Conn.c6 (h : Conn w C l v wr ch st) : At w C 6 (.bool wr) := h.2.2.2.2.2.1
theorem Conn.c7 (h : Conn w C l v wr ch st) : At w C 7 (.chan ch) := h.2.2.2.2.2.2.1
theorem Conn.c8 (h : Conn w C l v wr ch st) : At w C 8 (.bool st) := h.2.2.2.2.2.2.2
end
set_option maxRecDepth 100000 in
set_option maxHeartbeats 1000000 in
theorem next_st_zero (C : Nat) (ao : Option Addr) (cap : Nat) (wr : Bool) (ch : Option Nat) (x : Int) (w : World) (h : Conn w C 0 (.slice ao 0 cap) wr ch true) :
    Calls Yba.prog 5 #[.pointer (some ⟨C, 0, none⟩), .int .i64 x] w fun e w' => e = .returned (.tuple #[.slice none 0 0, .bool false]) ∧ Conn w' C 0 (.slice none 0 0) false ch true ∧ Kept (Mine C Option.none) w w' := by
  have H1 := hidIt (((h.lock 1).writ false).wait (.slice none 0 0))
  obtain ⟨c3, f3⟩ := h.c3
  obtain ⟨c5, f5⟩ := h.c5
  obtain ⟨c6, f6⟩ := h.c6
  obtain ⟨c8, f8⟩ := h.c8
  clear h
  go_enter_defers Yba.func5, Yba.ntmps5
  go_wp2_with (go_at_call 7; refine (lock_free Yba.muLib ⟨C, 3, none⟩ _ c3 f3).mono ?_; rintro e w' ⟨rfl, rfl⟩)
  refine leaves_cons (f := 8) (args := #[.pointer (some ⟨C, 3, none⟩)]) (by simp) (by simp [go_sem]) ?_
  refine (unlock_deferred Yba.muLib ⟨C, 3, none⟩ .returning _ (by exact H1.out.c3.1) (by exact H1.out.c3.2)).mono ?_
  rintro e u' w'' ⟨rfl, rfl, rfl⟩
  exact ⟨_, results_tmp2 rfl _ _ _, rfl, H1.out.lock 0, ((((Kept.refl _ _).set (.inl rfl) _ _).set (.inl rfl) _ _).set (.inl rfl) _ _).set (.inl rfl) _ _⟩
set_option maxRecDepth 100000 in
set_option maxHeartbeats 1000000 in
theorem next_go_zero (C : Nat) (v : Value) (ao : Option Addr) (cap : Nat) (wr : Bool) (ch : Option Nat) (x : Int) (w : World) (h : Conn w C 0 v wr ch false)
    (hv : ∃ a n c, v = .slice a n c) (hsl : ∀ W : World, (Instr.slice 22 v (some (.int .i64 x)) none none).run Yba.prog W = .ok (.slice ao 0 cap) W)
    (hc : ∀ r, ch = some r → C ≠ r ∧ w.heap[r]? = some (.chan 0 #[] false 0 0 false)) :
    Calls Yba.prog 5 #[.pointer (some ⟨C, 0, none⟩), .int .i64 x] w fun e w' => e = .returned (.tuple #[.slice none 0 0, .bool false]) ∧ Conn w' C 0 (.slice none 0 0) false none false ∧ Kept (Mine C ch) w w' ∧ (∀ r, ch = some r → w'.heap[r]? = some (.chan 0 #[] true 0 0 false)) := by
  obtain ⟨a1, n1, c1, rfl⟩ := hv
  have H1 := hidIt ((h.lock 1).wait (.slice ao 0 cap))
  have Hc := hidIt hc
  obtain ⟨c3, f3⟩ := h.c3
  obtain ⟨c5, f5⟩ := h.c5
  obtain ⟨c6, f6⟩ := h.c6
  obtain ⟨c8, f8⟩ := h.c8
  clear h hc
  go_enter_defers Yba.func5, Yba.ntmps5
  go_wp2_with (go_at_call 7; refine (lock_free Yba.muLib ⟨C, 3, none⟩ _ c3 f3).mono ?_; rintro e w' ⟨rfl, rfl⟩)
  refine (room_any C ch _ (by exact H1.out.c7) (fun r hr => ⟨(Hc.out r hr).1, by rw [heap_setCell_other _ _ _ _ _ (fun e => (Hc.out r hr).1 e.symm), heap_setCell_other _ _ _ _ _ (fun e => (Hc.out r hr).1 e.symm)]; exact (Hc.out r hr).2⟩)).mono ?_
  rintro e w' ⟨rfl, k1, k2, k3, k4⟩
  have H2 := hidIt (H1.out.room k2 k3)
  have K1 := hidIt ((((Kept.refl (Mine C ch) w).set (.inl rfl) 3 (.int .i32 1)).set (.inl rfl) 5 (.slice ao 0 cap)).trans k1)
  have K4 := hidIt k4
  have H3 := hidIt ((H2.out.writ false).wait (.slice none 0 0))
  clear k1 k2 k3 k4 c3 f3 c5 f5 c6 f6 c8 f8 H1
  obtain ⟨c5, f5⟩ := H2.out.c5
  obtain ⟨c6, f6⟩ := H2.out.c6
  go_wp2
  refine leaves_cons (f := 8) (args := #[.pointer (some ⟨C, 3, none⟩)]) (by simp) (by simp [go_sem]) ?_
  refine (unlock_deferred Yba.muLib ⟨C, 3, none⟩ .returning _ (by exact H3.out.c3.1) (by exact H3.out.c3.2)).mono ?_
  rintro e u' w'' ⟨rfl, rfl, rfl⟩
  refine ⟨_, results_tmp2 rfl _ _ _, rfl, H3.out.lock 0, ((K1.out.set (.inl rfl) _ _).set (.inl rfl) _ _).set (.inl rfl) _ _, fun r hr => ?_⟩
  have hne := (Hc.out r hr).1
  rw [heap_setCell_other _ _ _ _ _ (fun e => hne e.symm), heap_setCell_other _ _ _ _ _ (fun e => hne e.symm), heap_setCell_other _ _ _ _ _ (fun e => hne e.symm)]
  exact K4.out r hr
set_option maxRecDepth 100000 in
set_option maxHeartbeats 1000000 in
theorem next_st_some (C B o n cap : Nat) (wr : Bool) (ch : Option Nat) (x : Int) (w : World) (hn : 0 < n) (hn2 : n ≤ cap) (hcap : cap ≤ 2000000) (h : Conn w C 0 (.slice (some ⟨B, o, none⟩) n cap) wr ch true) :
    Calls Yba.prog 5 #[.pointer (some ⟨C, 0, none⟩), .int .i64 x] w fun e w' => e = .returned (.tuple #[.slice (some ⟨B, o, none⟩) (min n 4096) cap, .bool true]) ∧ Conn w' C 0 (.slice (some ⟨B, o, none⟩) n cap) wr ch true ∧ Kept (Mine C Option.none) w w' := by
  have H1 := hidIt (h.lock 1)
  obtain ⟨c3, f3⟩ := h.c3
  obtain ⟨c5, f5⟩ := h.c5
  obtain ⟨c8, f8⟩ := h.c8
  clear h
  have hd : ((n : Int) == 0) = false := by simp; omega
  have i0 : (0 : Int) ≤ (n : Int) := by omega
  have i1 : (n : Int) ≤ (cap : Int) := by omega
  by_cases hm : n ≤ 4096
  · rw [show min n 4096 = n from by omega]
    have i2 : (n : Int) ≤ 4096 := by omega
    go_enter_defers Yba.func5, Yba.ntmps5
    go_wp2_with (go_at_call 7; refine (lock_free Yba.muLib ⟨C, 3, none⟩ _ c3 f3).mono ?_; rintro e w' ⟨rfl, rfl⟩)
    go_quiet (fail)
    go_wp2
    refine leaves_cons (f := 8) (args := #[.pointer (some ⟨C, 3, none⟩)]) (by simp) (by simp [go_sem]) ?_
    refine (unlock_deferred Yba.muLib ⟨C, 3, none⟩ .returning _ (by exact (H1.out.drewN nq).c3.1) (by exact (H1.out.drewN nq).c3.2)).mono ?_
    rintro e u' w'' ⟨rfl, rfl, rfl⟩
    exact ⟨_, results_tmp2 rfl _ _ _, rfl, (H1.out.drewN nq).lock 0, ((((Kept.refl _ _).set (.inl rfl) _ _).drewN nq).set (.inl rfl) _ _)⟩
  · rw [show min n 4096 = 4096 from by omega]
    have i2 : (4096 : Int) < (n : Int) := by omega
    have i3 : (4096 : Int) ≤ (cap : Int) := by omega
    go_enter_defers Yba.func5, Yba.ntmps5
    go_wp2_with (go_at_call 7; refine (lock_free Yba.muLib ⟨C, 3, none⟩ _ c3 f3).mono ?_; rintro e w' ⟨rfl, rfl⟩)
    go_quiet (fail)
    go_wp2
    refine leaves_cons (f := 8) (args := #[.pointer (some ⟨C, 3, none⟩)]) (by simp) (by simp [go_sem]) ?_
    refine (unlock_deferred Yba.muLib ⟨C, 3, none⟩ .returning _ (by exact (H1.out.drewN nq).c3.1) (by exact (H1.out.drewN nq).c3.2)).mono ?_
    rintro e u' w'' ⟨rfl, rfl, rfl⟩
    exact ⟨_, results_tmp2 rfl _ _ _, rfl, (H1.out.drewN nq).lock 0, ((((Kept.refl _ _).set (.inl rfl) _ _).drewN nq).set (.inl rfl) _ _)⟩
set_option maxRecDepth 100000 in
set_option maxHeartbeats 1000000 in
theorem next_go_some (C B o n cap : Nat) (v : Value) (wr : Bool) (ch : Option Nat) (x : Int) (w : World) (hn : 0 < n) (hn2 : n ≤ cap) (hcap : cap ≤ 2000000) (h : Conn w C 0 v wr ch false)
    (hv : ∃ a n c, v = .slice a n c) (hsl : ∀ W : World, (Instr.slice 22 v (some (.int .i64 x)) none none).run Yba.prog W = .ok (.slice (some ⟨B, o, none⟩) n cap) W)
    (hc : ∀ r, ch = some r → C ≠ r ∧ w.heap[r]? = some (.chan 0 #[] false 0 0 false)) :
    Calls Yba.prog 5 #[.pointer (some ⟨C, 0, none⟩), .int .i64 x] w fun e w' => e = .returned (.tuple #[.slice (some ⟨B, o, none⟩) (min n 4096) cap, .bool true]) ∧ Conn w' C 0 (.slice (some ⟨B, o, none⟩) n cap) wr none false ∧ Kept (Mine C ch) w w' ∧ (∀ r, ch = some r → w'.heap[r]? = some (.chan 0 #[] true 0 0 false)) := by
  obtain ⟨a1, n1, c1, rfl⟩ := hv
  have H1 := hidIt ((h.lock 1).wait (.slice (some ⟨B, o, none⟩) n cap))
  have Hc := hidIt hc
  obtain ⟨c3, f3⟩ := h.c3
  obtain ⟨c5, f5⟩ := h.c5
  obtain ⟨c6, f6⟩ := h.c6
  obtain ⟨c8, f8⟩ := h.c8
  clear h hc
  have hd : ((n : Int) == 0) = false := by simp; omega
  have i0 : (0 : Int) ≤ (n : Int) := by omega
  have i1 : (n : Int) ≤ (cap : Int) := by omega
  by_cases hm : n ≤ 4096
  all_goals
    first
    | (rw [show min n 4096 = n from by omega]; have i2 : (n : Int) ≤ 4096 := by omega)
    | (rw [show min n 4096 = 4096 from by omega]; have i2 : (4096 : Int) < (n : Int) := by omega)
    have i3 : 4096 < (n : Int) → (4096 : Int) ≤ (cap : Int) := by omega
    go_enter_defers Yba.func5, Yba.ntmps5
    go_wp2_with (go_at_call 7; refine (lock_free Yba.muLib ⟨C, 3, none⟩ _ c3 f3).mono ?_; rintro e w' ⟨rfl, rfl⟩)
    refine (room_any C ch _ (by exact H1.out.c7) (fun r hr => ⟨(Hc.out r hr).1, by rw [heap_setCell_other _ _ _ _ _ (fun e => (Hc.out r hr).1 e.symm), heap_setCell_other _ _ _ _ _ (fun e => (Hc.out r hr).1 e.symm)]; exact (Hc.out r hr).2⟩)).mono ?_
    rintro e w' ⟨rfl, k1, k2, k3, k4⟩
    have H2 := hidIt (H1.out.room k2 k3)
    have K1 := hidIt ((((Kept.refl (Mine C ch) w).set (.inl rfl) 3 (.int .i32 1)).set (.inl rfl) 5 (.slice (some ⟨B, o, none⟩) n cap)).trans k1)
    have K4 := hidIt k4
    clear k1 k2 k3 k4 c3 f3 c5 f5 c6 f6 c8 f8 H1
    obtain ⟨c5, f5⟩ := H2.out.c5
    go_wp2
    go_quiet (fail)
    go_wp2
    refine leaves_cons (f := 8) (args := #[.pointer (some ⟨C, 3, none⟩)]) (by simp) (by simp [go_sem]) ?_
    refine (unlock_deferred Yba.muLib ⟨C, 3, none⟩ .returning _ (by exact (H2.out.drewN nq).c3.1) (by exact (H2.out.drewN nq).c3.2)).mono ?_
    rintro e u' w'' ⟨rfl, rfl, rfl⟩
    refine ⟨_, results_tmp2 rfl _ _ _, rfl, (H2.out.drewN nq).lock 0, (K1.out.drewN nq).set (.inl rfl) _ _, fun r hr => ?_⟩
    have hne := (Hc.out r hr).1
    rw [heap_setCell_other _ _ _ _ _ (fun e => hne e.symm)]
    exact K4.out r hr
end Go.Proofs.Ybulkdqts.E
