/-
  'Rows.LawS5882CWholeSaid' ('example.com/torusbell/torusbell.LawS5882CWhole'), proved. The frame after the guide's template and its shell for laws over slices; the slice of points by Derived/Deep/SlicePairs.lean.
-/
import Derived.Test.YbulkdqugRows
import Derived.Test.YbulkdqugLawC
import Derived.WalkKit
import Derived.ProofKit
import Derived.OpenShut
import Derived.ShutString
import Derived.ChangeOld
import Derived.Below
import Derived.Deep.SlicePairs
namespace Go.Proofs.Ybulkdqug.lawS5882CWhole
open Go.ChangeShapes Go.WideShapes Go.ChangeAt Go.RowKit
set_option linter.unusedVariables false

theorem own : ownKnob Yba.prog.godebug = none := by kernel_rfl
theorem laidOut : laidOutB Yba.prog = true := by kernel_rfl
theorem cells49 : Yba.prog.cellsOf 49 = 2 := by kernel_rfl
theorem cells5 : Yba.prog.cellsOf 5 = 1 := by kernel_rfl

/-- What the walk is told of the slice of points that came in. -/
def IsRow (w : World) (a : Option Addr) (len cap : Nat) (x y : Nat → Int) : Prop :=
  len = 0 ∨ ∃ z, a = some z ∧ len ≤ cap ∧ cap ≤ maxLen ∧ ∀ i, i < len → (w.cell? (z.add (i * 2)) = some (.int .u8 (x i)) ∧ w.cell? (z.add (i * 2 + 1)) = some (.int .u8 (y i))) ∧ (Lit.int .u8 (x i)).wf = true ∧ (Lit.int .u8 (y i)).wf = true

set_option maxRecDepth 100000 in
theorem law_big (a0 a1 a2 : Int) (ao : Option Addr) (len cap : Nat) (w : World) (hlen : 1048576 < len) :
    Calls Yba.prog 4 #[.int .u8 a0, .int .u8 a1, .int .i64 a2, .slice ao len cap] w fun e w' => e = .returned (.bool true) ∧ Below w.heap.size w w' := by
  have h1 : (1048576 : Int) < (len : Int) := by omega
  go_enter Yba.func4, Yba.ntmps4
  go_wp2
  go_ret
  exact ⟨rfl, Below.refl _ _⟩

theorem idx_run (b off len cap i : Nat) (hi : i < len) (w : World) : (Instr.indexAt 47 (.slice (some ⟨b, off, none⟩) len cap) (.int .i64 i)).run Yba.prog w = .ok (.pointer (some ⟨b, off + i * 2, none⟩)) w := by
  have h1 : (i : Int) < (len : Int) := by omega
  simp [go_sem, h1]

/-- Only the first n numbers matter: the rest may be taken as 0. -/
def upTo (n : Nat) (x : Nat → Int) : Nat → Int := fun i => if i < n then x i else 0
theorem upTo_lt (n : Nat) (x : Nat → Int) (i : Nat) (h : i < n) : upTo n x i = x i := by simp [upTo, h]

theorem walk (a0 : Int) (a1 : Int) (a2 : Int) (ao : Option Addr) (len cap : Nat) (x y : Nat → Int) (w : World) (w0 : (Lit.int .u8 a0).wf = true) (w1 : (Lit.int .u8 a1).wf = true) (w3 : IsRow w ao len cap x y) :
    Calls Yba.prog 4 #[.int .u8 a0, .int .u8 a1, .int .i64 a2, .slice ao len cap] w fun e w' => e = .returned (.bool true) ∧ Below w.heap.size w w' := by
  obtain ⟨p0, p0'⟩ := bounds_u8 w0
  obtain ⟨p1, p1'⟩ := bounds_u8 w1
  by_cases hbig : 1048576 < len
  · exact law_big a0 a1 a2 ao len cap w hbig
  obtain ⟨Wn, hW⟩ : ∃ Wn : Nat, a0 + 1 = Wn := ⟨(a0 + 1).toNat, by omega⟩
  obtain ⟨Hn, hH⟩ : ∃ Hn : Nat, a1 + 1 = Hn := ⟨(a1 + 1).toNat, by omega⟩
  by_cases h0 : len = 0
  · subst h0
    exact K.law a0 a1 a2 ao 0 cap 0 0 (fun _ => 0) (fun _ => 0) w Wn Hn hW hH p0 p0' p1 p1' (by omega) (fun i => by omega) (fun i h => absurd h (by omega)) (fun i h => absurd h (by omega)) (fun h => absurd h (by omega))
  · rcases w3 with h | ⟨z, rfl, hlc, hm, hall⟩
    · exact absurd h h0
    · obtain ⟨b, off, spot⟩ := z
      have hspot : spot = none := by simpa [Addr.add] using World.cell?_spot (hall 0 (by omega)).1.1
      subst hspot
      have hc : ∀ i, i < len → w.cell? ⟨b, off + i * 2, none⟩ = some (.int .u8 (upTo len x i)) ∧ w.cell? ⟨b, off + i * 2 + 1, none⟩ = some (.int .u8 (upTo len y i)) := fun i hi => by
        obtain ⟨⟨c0, c1⟩, -, -⟩ := hall i hi
        rw [add_plain] at c0 c1
        rw [upTo_lt _ _ _ hi, upTo_lt _ _ _ hi]
        exact ⟨c0, by rw [← c1, Nat.add_assoc]⟩
      refine K.law a0 a1 a2 (some ⟨b, off, none⟩) len cap b off (upTo len x) (upTo len y) w Wn Hn hW hH p0 p0' p1 p1' (by omega) (fun i => ?_) (fun i hi w => idx_run b off len cap i hi w) hc (fun h => World.block_lt_of_cell? _ _ (hc 0 h).1)
      by_cases hi : i < len
      · obtain ⟨-, u0, u1⟩ := hall i hi
        rw [upTo_lt _ _ _ hi, upTo_lt _ _ _ hi]
        have := bounds_u8 u0
        have := bounds_u8 u1
        omega
      · simp [upTo, hi]

set_option maxRecDepth 100000 in
theorem lifted (os : Os) (started : os.Started) (H : Type) (enc : TypeId × Value → H) :
    ReturnsInHanded {} Yba.checked os 4 .any (Rows.lawS5882CWholeSpec.pre6 enc Yba.prog Yba.f4 Rows.lawS5882CWholeRow.domain false) (Rows.lawS5882CWholeSpec.post enc Yba.prog Yba.f4 false true false false) := by
  refine returnsInHanded_of_change (C := Yba.checked) own started (by kernel_rfl) Yba.func4
    (ChangeSpec.witness6 (enc := enc) (C := Yba.checked) false ⟨#[], #[.int .u8 0, .int .u8 0, .int .i64 0, .slice none 0 0], []⟩ 8 (by kernel_rfl) (by kernel_rfl) (by kernel_rfl) (by kernel_rfl)) ?_
  intro W base args ds gs before hval0 hW hcnd _
  have hval : ∀ (j : Nat) t v, Yba.f4.params[j]? = some t → args[j]? = some v → Value.okWide Yba.prog W .any base t v := hval0
  have hW' := hW
  obtain ⟨p, q, hA0, hV, rfl, hfz, hnd⟩ := hW
  have hA : DataW.TrodAll enc Yba.prog W 0 (fun _ => true) true Yba.f4.params.toList args.toList ds p := hA0
  rw [Yba.params4] at hA hval
  obtain ⟨v0, vs0, d0, ds0, p0, q0, hargs, rfl, rfl, h0, r0⟩ := trodAll_cons hA
  obtain ⟨v1, vs1, d1, ds1, p1, q1, rfl, rfl, rfl, h1, r1⟩ := trodAll_cons r0
  obtain ⟨v2, vs2, d2, ds2, p2, q2, rfl, rfl, rfl, h2, r2⟩ := trodAll_cons r1
  obtain ⟨v3, vs3, d3, ds3, p3, q3, rfl, rfl, rfl, h3, r3⟩ := trodAll_cons r2
  obtain ⟨rfl, rfl, rfl⟩ := trodAll_nil r3
  obtain rfl : args = #[v0, v1, v2, v3] := by cases args; simp_all
  obtain ⟨rfl, rfl⟩ := trodVars_none hV
  obtain ⟨a0, rfl, rfl, rfl, w0⟩ := open_int Yba.underlying5 (hval 0 5 v0 rfl rfl) h0
  obtain ⟨a1, rfl, rfl, rfl, w1⟩ := open_int Yba.underlying5 (hval 1 5 v1 rfl rfl) h1
  obtain ⟨a2, rfl, rfl, rfl, w2⟩ := open_int Yba.underlying3 (hval 2 3 v2 rfl rfl) h2
  obtain ⟨a3, len3, cap3, rfl⟩ := okWide_slice Yba.underlying47 (hval 3 47 v3 rfl rfl)
  have k3 := h3
  have lt3 : ∀ x ∈ p3, x.block < W.heap.size := by obtain ⟨m, hm⟩ := k3; exact DataW.trod_lt m _ _ _ hm
  obtain ⟨x3, y3, w3⟩ : ∃ x y, IsRow W a3 len3 cap3 x y := by
    obtain ⟨fuel, hf⟩ := h3
    rcases Deep.open_slice_pairs Yba.underlying47 Yba.underlying49 cells49 rfl rfl cells5 cells5 hf with ⟨hcs, _⟩ | ⟨z, l, c, m, n, V0, V1, D0, D1, P0, P1, hcs, _, hl, hm, hmm, _, hall⟩
    · simp [Value.cells] at hcs
      obtain ⟨rfl, rfl, rfl⟩ := hcs
      exact ⟨fun _ => 0, fun _ => 0, .inl rfl⟩
    · simp [Value.cells] at hcs
      obtain ⟨rfl, rfl, rfl⟩ := hcs
      have hlm : len3 ≤ m := by simp at hmm; omega
      have key : ∀ i, ∃ u : Int × Int, i < len3 → V0 i = .int .u8 u.1 ∧ V1 i = .int .u8 u.2 ∧ (Lit.int .u8 u.1).wf = true ∧ (Lit.int .u8 u.2).wf = true := by
        intro i
        by_cases hi : i < len3
        · obtain ⟨-, -, t0, t1⟩ := hall i (by omega)
          obtain ⟨u0, e0, -, f0⟩ := DataW.trod_int Yba.underlying5 t0
          obtain ⟨u1, e1, -, f1⟩ := DataW.trod_int Yba.underlying5 t1
          simp at e0 e1
          exact ⟨(u0, u1), fun _ => ⟨e0, e1, f0, f1⟩⟩
        · exact ⟨(0, 0), fun h => absurd h hi⟩
      refine ⟨fun i => (Classical.choose (key i)).1, fun i => (Classical.choose (key i)).2, .inr ⟨z, rfl, hl, hm, fun i hi => ?_⟩⟩
      obtain ⟨e0, e1, f0, f1⟩ := Classical.choose_spec (key i) hi
      obtain ⟨c0, c1, -, -⟩ := hall i (by omega)
      rw [e0] at c0
      rw [e1] at c1
      exact ⟨⟨c0, c1⟩, f0, f1⟩
  clear hA0 hval0
  refine (walk a0 a1 a2 a3 len3 cap3 x3 y3 W w0 w1 w3).mono fun e W' ⟨he, bel⟩ => ?_
  subst he
  exact ⟨_, rfl, _, _, _, [], _, [], hW', trodAll_mk1 (shut_bool Yba.underlying4 _), (trodAll_cons_mk (shut_int Yba.underlying5 w0) (trodAll_cons_mk (shut_int Yba.underlying5 w1) (trodAll_cons_mk (shut_int Yba.underlying3 w2) (trodAll_cons_mk (Below.trod laidOut (by kernel_rfl) (of_decide_eq_true (by kernel_rfl)) k3 bel lt3) trodAll_mk0)))), rfl, bel.frame _, fun h => by cases h⟩

theorem proved : Rows.LawS5882CWholeSaid :=
  OpenClaim.holds_of_wide 4 Yba.f4 rfl rfl rfl rfl rfl rfl rfl ⟨rfl, rfl, rfl, rfl, rfl⟩ rfl rfl rfl rfl rfl (by kernel_rfl) Yba.func4 (by kernel_rfl)
    (of_decide_eq_true (by kernel_rfl)) (by unfold Func.isWrapper; first | (rw [if_pos (by decide +kernel)]; kernel_rfl) | (rw [if_neg (by decide +kernel)]; exact ⟨rfl, rfl⟩))
    (fun os started H enc _ => lifted os started H enc)
end Go.Proofs.Ybulkdqug.lawS5882CWhole
