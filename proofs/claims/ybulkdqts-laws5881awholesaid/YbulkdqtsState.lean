/-
  LawS5881AWhole: the bytes that the law builds, and how they lie in memory.
-/
import Derived.Test.YbulkdqtsNext
import Derived.Deep.OwnRows
import Derived.Laws.Bits64
import Derived.LaidEqlPtr
import Derived.WalkSmall
namespace Go.Proofs.Ybulkdqts.E
open Go.Conc Go.RowKit Go.MuLone
/-- The i-th byte that the law builds. -/
def bA (len : Nat) (z : Nat → Int) (i : Nat) : Int := if i < len then z i else ((i : Int) * 7 + 3) % 256
set_option maxRecDepth 100000 in
theorem byte_any (ao : Option Addr) (len cap b off : Nat) (z : Nat → Int) (i : Nat) (x : Int) (hx : x = i) (hi : i ≤ 2000000) (w : World)
    (hidx : i < len → ∀ w : World, (Instr.indexAt 22 (.slice ao len cap) (.int .i64 i)).run Yba.prog w = .ok (.pointer (some ⟨b, off + i, none⟩)) w)
    (hcell : i < len → w.cell? ⟨b, off + i, none⟩ = some (.int .u8 (z i))) :
    Calls Yba.prog 4 #[.slice ao len cap, .int .i64 x] w fun e w' => e = .returned (.int .u8 (bA len z i)) ∧ w' = w := by
  subst hx
  by_cases h : i < len
  · have h1 := hidx h
    have h2 := hcell h
    rw [show bA len z i = z i from by simp [bA, h]]
    clear hidx hcell
    go_enter Yba.func4, Yba.ntmps4
    go_wp2
    go_ret
    exact ⟨rfl, rfl⟩
  · rw [show bA len z i = ((i : Int) * 7 + 3) % 256 from by simp [bA, h]]
    clear hidx hcell
    go_enter Yba.func4, Yba.ntmps4
    go_wp2
    go_ret
    exact ⟨rfl, rfl⟩
theorem info5 : (Yba.prog.info? 5).map (fun i => (i.zero, i.size, i.bytes)) = some (some (.int .u8 0), 1, 1) := by kernel_rfl
theorem make_run (n : Nat) (hn : n ≤ 2000000) (w : World) : (Instr.makeSlice 22 (.int .i64 (n : Int)) (.int .i64 (n : Int))).run Yba.prog w = .ok (.slice (some ⟨w.heap.size, 0, none⟩) n n) (w.alloc (.cells (madeCells #[.int .u8 0] n) 5)) :=
  run_make_row' 22 5 (.int .u8 0) 1 Yba.underlying22 info5 rfl .i64 .i64 n (by omega) (by omega) w
/-- The bytes 'wc', in block B: the first n cells. -/
def Wc (w : World) (B n : Nat) (g : Nat → Int) : Prop := ∀ i, i < n → At w B i (.int .u8 (g i))
def S1 (w w1 : World) (n : Nat) (g : Nat → Int) : Prop := Wc w1 w.heap.size n g ∧ w1.heap.size = w.heap.size + 1 ∧ Below w.heap.size w w1
def put (g : Nat → Int) (k : Nat) (v : Int) : Nat → Int := fun j => if j = k then v else g j
theorem S1.start (w : World) (n : Nat) : S1 w (w.alloc (.cells (madeCells #[.int .u8 0] n) 5)) n (fun _ => 0) := by
  refine ⟨fun i hi => ⟨?_, by simp⟩, by simp, (Below.refl _ _).alloc (Nat.le_refl _) _⟩
  have e : (madeCells #[.int .u8 0] n)[i]? = some (.int .u8 0) := by
    rw [← Array.getElem?_toList, toList_madeCells_one]
    simp [hi]
  simp [e]
theorem S1.set {w w1 : World} {n : Nat} {g : Nat → Int} (h : S1 w w1 n g) (k : Nat) (v : Int) : S1 w (w1.setCell ⟨w.heap.size, k, none⟩ (.int .u8 v)) n (put g k v) := by
  obtain ⟨h1, h2, h3⟩ := h
  refine ⟨fun i hi => ?_, by simpa using h2, h3.setCell (Nat.le_refl _) _⟩
  by_cases e : i = k
  · subst e; simp only [put, if_true]; exact (h1 i hi).set_same _
  · simp only [put, e, if_false]; exact (h1 i hi).set_other (by omega) _
theorem bcell {B : Nat} {W w1 : World} (hb : Below B W w1) {b o : Nat} {v : Value} (hbb : b < B) (h : W.cell? ⟨b, o, none⟩ = some v) : w1.cell? ⟨b, o, none⟩ = some v :=
  (hb.cell (p := ⟨b, o, none⟩) hbb).trans h
/-- The world ahead of 'next', but for the connection: the bytes, and the channel if there is one. -/
def S2 (w w2 : World) (n : Nat) (g : Nat → Int) (ch : Option Nat) : Prop :=
  Wc w2 w.heap.size n g ∧ w.heap.size < w2.heap.size ∧ Below w.heap.size w w2 ∧ ∀ r, ch = some r → w.heap.size < r ∧ w2.heap[r]? = some (.chan 0 #[] false 0 0 false)
theorem At.later {w w' : World} {B b o : Nat} {v : Value} (h : At w b o v) (hb : Below B w w') (hB : b < B) : At w' b o v :=
  ⟨(hb.cell (p := ⟨b, o, none⟩) hB).trans h.1, (hb.frozen (p := ⟨b, o, none⟩) hB).trans h.2⟩
theorem At.new {w : World} {c : Array Value} {t : TypeId} {o : Nat} {v : Value} (h : c[o]? = some v) : At (w.alloc (.cells c t)) w.heap.size o v := by
  refine ⟨?_, ?_⟩
  · simp [h]
  · simp
theorem S2.none {w w1 : World} {n : Nat} {g : Nat → Int} (h : S1 w w1 n g) : S2 w w1 n g Option.none :=
  ⟨h.1, by have := h.2.1; omega, h.2.2, fun r hr => by cases hr⟩
theorem S2.some {w w1 : World} {n : Nat} {g : Nat → Int} (h : S1 w w1 n g) : S2 w (w1.alloc (.chan 0 #[] false 0 0 false)) n g (Option.some w1.heap.size) := by
  have hb : Below w1.heap.size w1 (w1.alloc (.chan 0 #[] false 0 0 false)) := (Below.refl _ _).alloc (Nat.le_refl _) _
  have hz := h.2.1
  refine ⟨fun i hi => (h.1 i hi).later hb (by omega), by simp; omega, h.2.2.alloc (by omega) _, fun r hr => ?_⟩
  cases hr
  exact ⟨by omega, heap_alloc_new _ _⟩
theorem conn_new (w : World) (v : Value) (wr : Bool) (ch : Option Nat) (st : Bool) :
    Conn (w.alloc (.cells #[.string ⟨#[110]⟩, .nilIface, .string ⟨#[112]⟩, .int .i32 0, .int .u32 0, v, .bool wr, .chan ch, .bool st, .int .u64 0, .int .u32 0] 45)) w.heap.size 0 v wr ch st :=
  ⟨At.new rfl, At.new rfl, At.new rfl, At.new rfl, At.new rfl, At.new rfl, At.new rfl, At.new rfl⟩
theorem chan_run (w : World) : (Instr.makeChan 26 (.int .i64 0)).run Yba.prog w = .ok (.chan (Option.some w.heap.size)) (w.alloc (.chan 0 #[] false 0 0 false)) := by
  have h : (Yba.prog.info? 30).map (·.bytes) = Option.some 0 := by kernel_rfl
  obtain ⟨i, hi, hb⟩ := Option.map_eq_some_iff.1 h
  simpa using run_makeChan (P := Yba.prog) (w := w) Yba.underlying26 hi .i64 0 (by omega) (by rw [hb]; omega)
theorem mod_ok (a : Int) (n : Nat) (hn : n ≤ 2000000) : ∃ k : Nat, Value.int .i64 (wrap64 ((IntKind.u64.wrap a).tmod ((n : Int) + 1))) = Value.int .i64 k ∧ k ≤ n := by
  rw [IntKind.wrap_u64]
  have h0 : 0 ≤ a % 18446744073709551616 := by omega
  rw [Int.tmod_eq_emod_of_nonneg h0]
  have h1 := Int.emod_nonneg (a % 18446744073709551616) (show (n : Int) + 1 ≠ 0 by omega)
  have h2 := Int.emod_lt_of_pos (a % 18446744073709551616) (show 0 < (n : Int) + 1 by omega)
  generalize (a % 18446744073709551616) % ((n : Int) + 1) = m at *
  refine ⟨m.toNat, ?_, by omega⟩
  congr 1
  unfold wrap64
  omega
theorem closed_any (ch : Option Nat) (cl : Bool) (w : World) (h : ∀ r, ch = Option.some r → w.heap[r]? = Option.some (.chan 0 #[] cl 0 0 false)) :
    Calls Yba.prog 6 #[.chan ch] w fun e w' => e = .returned (.bool (ch.isSome && cl)) ∧ w' = w := by
  cases ch with
  | none => exact closed_nil w
  | some r =>
    cases cl
    · exact closed_open r w (h r rfl)
    · exact closed_shut r w (h r rfl)
theorem neq_chan (ch : Option Nat) (w : World) : (binOp .neq 26 (.chan ch) (.chan ch)).run Yba.prog w = .ok (.bool false) w := by
  have h : ∀ d : Nat, (Op.equalIn (d + 1) 26 (.chan ch) (.chan ch)).run Yba.prog w = .ok true w := fun d => by
    simp [Op.equalIn, run_underlying Yba.underlying26]
  simp only [binOp]
  simp [Op.equal, Op.maxDepth, h 9999]
theorem neq_iface (w : World) : (binOp .neq 29 .nilIface .nilIface).run Yba.prog w = .ok (.bool false) w := by kernel_rfl
theorem size5 : (Yba.prog.info? 5).map (·.size) = Option.some 1 := by kernel_rfl
theorem neq_ptr (a : Addr) (w : World) : (binOp .neq 49 (.pointer (Option.some a)) (.pointer (Option.some a))).run Yba.prog w = .ok (.bool false) w := by
  obtain ⟨j, hj, -⟩ := Option.map_eq_some_iff.1 size5
  have h : ∀ d : Nat, (Op.equalIn (d + 1) 49 (.pointer (Option.some a)) (.pointer (Option.some a))).run Yba.prog w = .ok true w := fun d => by
    simp [Op.equalIn, run_underlying Yba.underlying49, sizeOf, typeInfo, hj, run_sameAddr_same]
  simp only [binOp]
  simp [Op.equal, Op.maxDepth, h 9999]
theorem S2.after {w w2 w3 : World} {n : Nat} {g : Nat → Int} {ch ch' : Option Nat} {o : Obj} (h : S2 w w2 n g ch) (hch : ch' = ch ∨ ch' = Option.none) (k : Kept (Mine w2.heap.size ch') (w2.alloc o) w3) : Wc w3 w.heap.size n g ∧ Below w.heap.size w w3 := by
  obtain ⟨h1, h2, h3, h4⟩ := h
  have ha : Below w2.heap.size w2 (w2.alloc o) := (Below.refl _ _).alloc (Nat.le_refl _) _
  have hm : ∀ b, Mine w2.heap.size ch' b → w.heap.size < b := by
    intro b hb
    rcases hb with rfl | hb
    · exact h2
    · rcases hch with rfl | rfl
      · exact (h4 b hb).1
      · cases hb
  refine ⟨fun i hi => k.at (fun hmm => by have := hm _ hmm; omega) ((h1 i hi).later ha h2), ?_⟩
  exact (h3.alloc (by omega) o).trans (k.below (fun b hb => Nat.le_of_lt (hm b hb)))
theorem S2.chan {w w2 w3 : World} {n : Nat} {g : Nat → Int} {ch : Option Nat} {o : Obj} (h : S2 w w2 n g ch) (k : Kept (Mine w2.heap.size Option.none) (w2.alloc o) w3) : ∀ r, ch = Option.some r → w3.heap[r]? = Option.some (.chan 0 #[] false 0 0 false) := by
  intro r hr
  have h4 := (h.2.2.2 r hr).2
  have hlt : r < w2.heap.size := by
    rcases Nat.lt_or_ge r w2.heap.size with h | h
    · exact h
    · rw [Array.getElem?_eq_none h] at h4; cases h4
  have ha : Below w2.heap.size w2 (w2.alloc o) := (Below.refl _ _).alloc (Nat.le_refl _) _
  rw [k.block r (fun hm => hm.elim (fun e => by omega) (fun e => by cases e)), ha.block r hlt]
  exact h4
theorem S2.free {w w2 : World} {n : Nat} {g : Nat → Int} {ch : Option Nat} (o : Obj) (h : S2 w w2 n g ch) : ∀ r, ch = Option.some r → w2.heap.size ≠ r ∧ (w2.alloc o).heap[r]? = Option.some (.chan 0 #[] false 0 0 false) := by
  intro r hr
  have h4 := (h.2.2.2 r hr).2
  have hlt : r < w2.heap.size := by
    rcases Nat.lt_or_ge r w2.heap.size with h | h
    · exact h
    · rw [Array.getElem?_eq_none h] at h4; cases h4
  have ha : Below w2.heap.size w2 (w2.alloc o) := (Below.refl _ _).alloc (Nat.le_refl _) _
  exact ⟨by omega, (ha.block r hlt).trans h4⟩
/-- The world behind 'next'. -/
def S3 (w w3 : World) (n : Nat) (g : Nat → Int) (C : Nat) (v : Value) (wr : Bool) (ch' : Option Nat) (st : Bool) (ch : Option Nat) (cl : Bool) : Prop :=
  Conn w3 C 0 v wr ch' st ∧ Wc w3 w.heap.size n g ∧ Below w.heap.size w w3 ∧ ∀ r, ch = Option.some r → w3.heap[r]? = Option.some (.chan 0 #[] cl 0 0 false)
theorem S3.drewN {w w3 : World} {n : Nat} {g : Nat → Int} {C : Nat} {v : Value} {wr : Bool} {ch' : Option Nat} {st : Bool} {ch : Option Nat} {cl : Bool} (h : S3 w w3 n g C v wr ch' st ch cl) (q : Nat) : S3 w (w3.drewN q) n g C v wr ch' st ch cl :=
  ⟨h.1.drewN q, fun i hi => (h.2.1 i hi).drewN q, below_drewN h.2.2.1 q, h.2.2.2⟩
theorem slice_run (B n k : Nat) (hk : k ≤ n) (W : World) : (Instr.slice 22 (.slice (Option.some ⟨B, 0, Option.none⟩) n n) (Option.some (.int .i64 (k : Int))) Option.none Option.none).run Yba.prog W =
    .ok (.slice (Option.some (if n = k then ⟨B, 0, Option.none⟩ else ⟨B, k, Option.none⟩)) (n - k) (n - k)) W := by
  have h1 : (k : Int) ≤ (n : Int) := by omega
  have h2 : (0 : Int) ≤ (k : Int) := by omega
  by_cases e : n = k
  · subst e
    simp [go_sem]
  · simp [go_sem, e, h1]
end Go.Proofs.Ybulkdqts.E
