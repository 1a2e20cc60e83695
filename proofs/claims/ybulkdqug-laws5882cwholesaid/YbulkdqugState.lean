/-
  LawS5882CWhole: the nodes of an outcome in memory, and the world inside newOutcome.
-/
import Derived.Test.YbulkdqugSmall
import Derived.Deep.OwnRows
namespace Go.Proofs.Ybulkdqug.K
open Go.RowKit
def honest : ByteArray := ⟨#[104, 111, 110, 101, 115, 116]⟩
def source : ByteArray := ⟨#[115, 111, 117, 114, 99, 101]⟩
def faulty : ByteArray := ⟨#[102, 97, 117, 108, 116, 121]⟩
structure NSt where
  x : Int
  y : Int
  role : ByteArray
  com : Bool
  val : Int
/-- The six cells of one node. -/
def Node (w : World) (D i : Nat) (s : NSt) : Prop :=
  At w D (i * 6) (.int .i64 s.x) ∧ At w D (i * 6 + 1) (.int .i64 s.y) ∧ At w D (i * 6 + 2) (.string s.role) ∧ At w D (i * 6 + 3) (.bool s.com) ∧ At w D (i * 6 + 4) (.int .i64 s.val) ∧ At w D (i * 6 + 5) (.int .i64 0)
def NS (w : World) (D T : Nat) (f : Nat → NSt) : Prop := ∀ i, i < T → Node w D i (f i)
theorem info68 : (Yba.prog.info? 68).map (fun i => (i.zero, i.size, i.bytes)) = some (some (.agg #[.int .i64 0, .int .i64 0, .string ⟨#[]⟩, .bool false, .int .i64 0, .int .i64 0]), 6, 56) := by kernel_rfl
def nodeZ : Array Value := #[.int .i64 0, .int .i64 0, .string ⟨#[]⟩, .bool false, .int .i64 0, .int .i64 0]
theorem make59 (n : Nat) (hn : n ≤ 2000000) (w : World) : (Instr.makeSlice 59 (.int .i64 (n : Int)) (.int .i64 (n : Int))).run Yba.prog w = .ok (.slice (some ⟨w.heap.size, 0, none⟩) n n) (w.alloc (.cells (madeCells nodeZ (n * 6)) 68)) := by
  obtain ⟨i, hi, hzz⟩ := Option.map_eq_some_iff.1 info68
  simp only [Prod.mk.injEq] at hzz
  obtain ⟨hz, hs, hb⟩ := hzz
  have hr := run_make (P := Yba.prog) w 59 68 i _ Yba.underlying59 hi hz .i64 .i64 n n (by omega) (Int.le_refl _) (by rw [hb]; omega) (by omega)
  simp only [Int.toNat_natCast, hs] at hr
  exact hr
theorem madeZ (T i j : Nat) (hi : i < T) (hj : j < 6) : (madeCells nodeZ (T * 6))[i * 6 + j]? = nodeZ[j]? := by
  have hlt : i * 6 + j < T * 6 := by omega
  have hm : (i * 6 + j) % 6 = j := by omega
  unfold madeCells
  rw [Array.getElem?_map, Array.getElem?_range, if_pos hlt]
  simp only [Option.map_some]
  show some (nodeZ[(i * 6 + j) % 6]!) = _
  rw [hm]
  have h6 : j < nodeZ.size := hj
  rw [getElem!_pos nodeZ j h6, Array.getElem?_eq_getElem h6]
theorem NS.new (w : World) (T : Nat) : NS (w.alloc (.cells (madeCells nodeZ (T * 6)) 68)) w.heap.size T (fun _ => ⟨0, 0, ⟨#[]⟩, false, 0⟩) := by
  intro i hi
  exact ⟨At.new (by rw [show i * 6 = i * 6 + 0 from rfl, madeZ T i 0 hi (by omega)]; rfl), At.new (by rw [madeZ T i 1 hi (by omega)]; rfl), At.new (by rw [madeZ T i 2 hi (by omega)]; rfl), At.new (by rw [madeZ T i 3 hi (by omega)]; rfl), At.new (by rw [madeZ T i 4 hi (by omega)]; rfl), At.new (by rw [madeZ T i 5 hi (by omega)]; rfl)⟩
theorem Node.later {w w' : World} {D i : Nat} {s : NSt} (h : Node w D i s) {B : Nat} (hb : Below B w w') (hD : D < B) : Node w' D i s :=
  ⟨h.1.later hb hD, h.2.1.later hb hD, h.2.2.1.later hb hD, h.2.2.2.1.later hb hD, h.2.2.2.2.1.later hb hD, h.2.2.2.2.2.later hb hD⟩
theorem Node.set_out {w : World} {D i : Nat} {s : NSt} (h : Node w D i s) (b o : Nat) (hne : b ≠ D ∨ o < i * 6 ∨ i * 6 + 6 ≤ o) (u : Value) : Node (w.setCell ⟨b, o, none⟩ u) D i s :=
  ⟨h.1.set_other (by omega) _, h.2.1.set_other (by omega) _, h.2.2.1.set_other (by omega) _, h.2.2.2.1.set_other (by omega) _, h.2.2.2.2.1.set_other (by omega) _, h.2.2.2.2.2.set_other (by omega) _⟩
/-- The world behind the store of one node. -/
def putNode (w : World) (D i : Nat) (s : NSt) : World :=
  (((((w.setCell ⟨D, i * 6, none⟩ (.int .i64 s.x)).setCell ⟨D, i * 6 + 1, none⟩ (.int .i64 s.y)).setCell ⟨D, i * 6 + 2, none⟩ (.string s.role)).setCell ⟨D, i * 6 + 3, none⟩ (.bool s.com)).setCell ⟨D, i * 6 + 4, none⟩ (.int .i64 s.val)).setCell ⟨D, i * 6 + 5, none⟩ (.int .i64 0)
def putF (f : Nat → NSt) (k : Nat) (s : NSt) : Nat → NSt := fun j => if j = k then s else f j
theorem Node.put_same {w : World} {D i : Nat} {s : NSt} (h : Node w D i s) (s' : NSt) : Node (putNode w D i s') D i s' := by
  obtain ⟨h0, h1, h2, h3, h4, h5⟩ := h
  unfold putNode
  refine ⟨?_, ?_, ?_, ?_, ?_, ?_⟩
  · exact (((((h0.set_same _).set_other (by omega) _).set_other (by omega) _).set_other (by omega) _).set_other (by omega) _).set_other (by omega) _
  · exact (((((h1.set_other (by omega) _).set_same _).set_other (by omega) _).set_other (by omega) _).set_other (by omega) _).set_other (by omega) _
  · exact (((((h2.set_other (by omega) _).set_other (by omega) _).set_same _).set_other (by omega) _).set_other (by omega) _).set_other (by omega) _
  · exact (((((h3.set_other (by omega) _).set_other (by omega) _).set_other (by omega) _).set_same _).set_other (by omega) _).set_other (by omega) _
  · exact (((((h4.set_other (by omega) _).set_other (by omega) _).set_other (by omega) _).set_other (by omega) _).set_same _).set_other (by omega) _
  · exact (((((h5.set_other (by omega) _).set_other (by omega) _).set_other (by omega) _).set_other (by omega) _).set_other (by omega) _).set_same _
theorem Node.put_other {w : World} {D i k : Nat} {s : NSt} (h : Node w D i s) (hk : i ≠ k) (s' : NSt) : Node (putNode w D k s') D i s := by
  unfold putNode
  exact (((((h.set_out _ _ (by omega) _).set_out _ _ (by omega) _).set_out _ _ (by omega) _).set_out _ _ (by omega) _).set_out _ _ (by omega) _).set_out _ _ (by omega) _
theorem NS.put {w : World} {D T : Nat} {f : Nat → NSt} (h : NS w D T f) (k : Nat) (s : NSt) : NS (putNode w D k s) D T (putF f k s) := by
  intro i hi
  by_cases e : i = k
  · subst e; simp only [putF, if_true]; exact (h i hi).put_same s
  · simp only [putF, e, if_false]; exact (h i hi).put_other e s
theorem At.putNode {w : World} {b o : Nat} {v : Value} (h : At w b o v) {D : Nat} (hne : D ≠ b) (k : Nat) (s : NSt) : At (putNode w D k s) b o v := by
  unfold K.putNode
  exact (((((h.set_other (.inl hne) _).set_other (.inl hne) _).set_other (.inl hne) _).set_other (.inl hne) _).set_other (.inl hne) _).set_other (.inl hne) _
theorem below_putNode {B : Nat} {a w : World} (h : Below B a w) {D : Nat} (hD : B ≤ D) (k : Nat) (s : NSt) : Below B a (putNode w D k s) := by
  unfold putNode
  exact (((((h.setCell hD _).setCell hD _).setCell hD _).setCell hD _).setCell hD _).setCell hD _
theorem size_putNode (w : World) (D k : Nat) (s : NSt) : (putNode w D k s).heap.size = w.heap.size := by simp [putNode]
theorem nodes_T (N : Nat) (W H : Int) (T : Nat) (hT : W * H = T) (hW : 1 ≤ W) (hW2 : W ≤ 256) (hH : 1 ≤ H) (hH2 : H ≤ 256) (w : World) (c0 : w.cell? ⟨N, 0, none⟩ = some (.int .i64 W)) (c1 : w.cell? ⟨N, 1, none⟩ = some (.int .i64 H)) :
    Calls Yba.prog 15 #[.pointer (some ⟨N, 0, none⟩)] w fun e w' => e = .returned (.int .i64 T) ∧ ∃ q, w' = w.drewN q := by
  rw [← hT]
  exact nodes_any N W H hW hW2 hH hH2 w c0 c1
/-- The world inside newOutcome: the argument's box, the nodes, the outcome. -/
def OS (w wr : World) (N P n T : Nat) (value : Int) (f : Nat → NSt) : Prop :=
  (At wr w.heap.size 0 (.pointer (some ⟨N, 0, none⟩)) ∧ At wr w.heap.size 2 (.int .i64 value) ∧ At wr w.heap.size 3 (.slice (some ⟨P, 0, none⟩) n n)) ∧
  (At wr (w.heap.size + 1 + 1) 0 (.int .i64 value) ∧ At wr (w.heap.size + 1 + 1) 1 (.slice (some ⟨w.heap.size + 1, 0, none⟩) T T) ∧ At wr (w.heap.size + 1 + 1) 2 (.int .i64 0) ∧ At wr (w.heap.size + 1 + 1) 3 (.slice none 0 0) ∧ At wr (w.heap.size + 1 + 1) 4 (.pointer none)) ∧
  NS wr (w.heap.size + 1) T f ∧ Below w.heap.size w wr ∧ w.heap.size + 1 + 1 < wr.heap.size
theorem OS.later {w wr w' : World} {N P n T : Nat} {value : Int} {f : Nat → NSt} (h : OS w wr N P n T value f) (hb : Below wr.heap.size wr w') : OS w w' N P n T value f := by
  obtain ⟨⟨a0, a1, a2⟩, ⟨b0, b1, b2, b3, b4⟩, c, d, e⟩ := h
  have hz := hb.size
  exact ⟨⟨a0.later hb (by omega), a1.later hb (by omega), a2.later hb (by omega)⟩, ⟨b0.later hb e, b1.later hb e, b2.later hb e, b3.later hb e, b4.later hb e⟩, fun i hi => (c i hi).later hb (by omega), d.trans (hb.mono (by omega)), by omega⟩
theorem OS.laterD {w wr w' : World} {N P n T : Nat} {value : Int} {f : Nat → NSt} (h : OS w wr N P n T value f) (hb : Below wr.drew.heap.size wr.drew w') : OS w w' N P n T value f :=
  h.later ((Below.refl wr.heap.size wr).drew.trans hb)
theorem OS.put {w wr : World} {N P n T : Nat} {value : Int} {f : Nat → NSt} (h : OS w wr N P n T value f) (k : Nat) (s : NSt) : OS w (putNode wr (w.heap.size + 1) k s) N P n T value (putF f k s) := by
  obtain ⟨⟨a0, a1, a2⟩, ⟨b0, b1, b2, b3, b4⟩, c, d, e⟩ := h
  exact ⟨⟨a0.putNode (by omega) k s, a1.putNode (by omega) k s, a2.putNode (by omega) k s⟩, ⟨b0.putNode (by omega) k s, b1.putNode (by omega) k s, b2.putNode (by omega) k s, b3.putNode (by omega) k s, b4.putNode (by omega) k s⟩, c.put k s, below_putNode d (by omega) k s, by rw [size_putNode]; exact e⟩
def withRole (s : NSt) (r : ByteArray) : NSt := ⟨s.x, s.y, r, s.com, s.val⟩
theorem OS.role {w wr : World} {N P n T : Nat} {value : Int} {f : Nat → NSt} (h : OS w wr N P n T value f) (k : Nat) (r : ByteArray) : OS w (wr.setCell ⟨w.heap.size + 1, k * 6 + 2, none⟩ (.string r)) N P n T value (putF f k (withRole (f k) r)) := by
  obtain ⟨⟨a0, a1, a2⟩, ⟨b0, b1, b2, b3, b4⟩, c, d, e⟩ := h
  refine ⟨⟨a0.set_other (by omega) _, a1.set_other (by omega) _, a2.set_other (by omega) _⟩, ⟨b0.set_other (by omega) _, b1.set_other (by omega) _, b2.set_other (by omega) _, b3.set_other (by omega) _, b4.set_other (by omega) _⟩, fun i hi => ?_, d.setCell (by simp) _, by simpa using e⟩
  obtain ⟨h0, h1, h2, h3, h4, h5⟩ := c i hi
  by_cases ei : i = k
  · subst ei
    simp only [putF, if_true]
    exact ⟨h0.set_other (by omega) _, h1.set_other (by omega) _, h2.set_same _, h3.set_other (by omega) _, h4.set_other (by omega) _, h5.set_other (by omega) _⟩
  · simp only [putF, ei, if_false]
    exact Node.set_out ⟨h0, h1, h2, h3, h4, h5⟩ _ _ (by omega) _
theorem OS.start (w : World) (N P n T : Nat) (value : Int) (q : Nat) : OS w ((((w.alloc (.cells #[.pointer (some ⟨N, 0, none⟩), .string ⟨#[]⟩, .int .i64 value, .slice (some ⟨P, 0, none⟩) n n, .string ⟨#[]⟩, .map none, .int .i64 0, .int .i64 0, .int .i64 0] 58)).drewN q).alloc (.cells (madeCells nodeZ (T * 6)) 68)).alloc
    (.cells #[.int .i64 value, .slice (some ⟨w.heap.size + 1, 0, none⟩) T T, .int .i64 0, .slice none 0 0, .pointer none] 63)) N P n T value (fun _ => ⟨0, 0, ⟨#[]⟩, false, 0⟩) := by
  generalize h1 : (w.alloc (.cells #[.pointer (some ⟨N, 0, none⟩), .string ⟨#[]⟩, .int .i64 value, .slice (some ⟨P, 0, none⟩) n n, .string ⟨#[]⟩, .map none, .int .i64 0, .int .i64 0, .int .i64 0] 58)).drewN q = w1
  have s1 : w1.heap.size = w.heap.size + 1 := by rw [← h1]; simp [World.drewN]
  have b1 : Below w.heap.size w w1 := by rw [← h1]; exact below_drewN ((Below.refl _ _).alloc (Nat.le_refl _) _) _
  have a0 : At w1 w.heap.size 0 (.pointer (some ⟨N, 0, none⟩)) := by rw [← h1]; exact At.new rfl
  have a2 : At w1 w.heap.size 2 (.int .i64 value) := by rw [← h1]; exact At.new rfl
  have a3 : At w1 w.heap.size 3 (.slice (some ⟨P, 0, none⟩) n n) := by rw [← h1]; exact At.new rfl
  clear h1
  generalize h2 : w1.alloc (.cells (madeCells nodeZ (T * 6)) 68) = w2
  have s2 : w2.heap.size = w.heap.size + 1 + 1 := by rw [← h2]; simp [s1]
  have k2 : Below w1.heap.size w1 w2 := by rw [← h2]; exact (Below.refl _ _).alloc (Nat.le_refl _) _
  have n2 : NS w2 (w.heap.size + 1) T (fun _ => ⟨0, 0, ⟨#[]⟩, false, 0⟩) := by rw [← h2, ← s1]; exact NS.new w1 T
  clear h2
  have k3 : ∀ o : Obj, Below w2.heap.size w2 (w2.alloc o) := fun o => (Below.refl _ _).alloc (Nat.le_refl _) _
  have hlt : w.heap.size < w1.heap.size := by omega
  have hlt2 : w.heap.size < w2.heap.size := by omega
  refine ⟨⟨(a0.later k2 hlt).later (k3 _) hlt2, (a2.later k2 hlt).later (k3 _) hlt2, (a3.later k2 hlt).later (k3 _) hlt2⟩, ?_, fun i hi => (n2 i hi).later (k3 _) (by omega), (b1.trans (k2.mono (by omega))).trans ((k3 _).mono (by omega)), by simp [s2]⟩
  rw [← s2]
  exact ⟨At.new rfl, At.new rfl, At.new rfl, At.new rfl, At.new rfl⟩
/-- A node before any round. -/
def init (W : Int) (j : Nat) : NSt := ⟨(j : Int) % W, (j : Int) / W, honest, false, 0⟩
/-- ... with the source committed. -/
def base (W value : Int) (j : Nat) : NSt := if j = 0 then ⟨0, 0, source, true, value⟩ else init W j
/-- The number of the node at the i-th faulty point. -/
def idx (W : Int) (X Y : Nat → Int) (i : Nat) : Nat := (Y i * W + X i).toNat
/-- The nodes when k faulty points have been marked. -/
def fin (W value : Int) (X Y : Nat → Int) : Nat → Nat → NSt
  | 0 => base W value
  | k + 1 => putF (fin W value X Y k) (idx W X Y k) (withRole (fin W value X Y k (idx W X Y k)) faulty)
theorem OS.congr {w wr : World} {N P n T : Nat} {value : Int} {f g : Nat → NSt} (h : OS w wr N P n T value f) (hfg : ∀ i, i < T → f i = g i) : OS w wr N P n T value g :=
  ⟨h.1, h.2.1, fun i hi => hfg i hi ▸ h.2.2.1 i hi, h.2.2.2⟩
theorem OS.drewN {w wr : World} {N P n T : Nat} {value : Int} {f : Nat → NSt} (h : OS w wr N P n T value f) (q : Nat) : OS w (wr.drewN q) N P n T value f :=
  h.later (below_drewN (Below.refl _ _) q)
theorem idx_eq (W H : Int) (X Y : Nat → Int) (T i : Nat) (hT : W * H = T) (hx : 0 ≤ X i) (hx2 : X i < W) (hy : 0 ≤ Y i) (hy2 : Y i < H) : Y i * W + X i = (idx W X Y i : Int) ∧ idx W X Y i < T := by
  have h1 : 0 ≤ Y i * W := Int.mul_nonneg hy (by omega)
  have h2 : (Y i + 1) * W ≤ H * W := Int.mul_le_mul_of_nonneg_right (by omega) (by omega)
  rw [Int.add_mul, Int.one_mul, Int.mul_comm H W, hT] at h2
  unfold idx
  omega
end Go.Proofs.Ybulkdqug.K
