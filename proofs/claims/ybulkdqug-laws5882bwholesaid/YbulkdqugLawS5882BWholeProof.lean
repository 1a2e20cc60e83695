/-
  'Rows.LawS5882BWholeSaid': the law returns true whatever the input; the input reads as it did.
-/
import Derived.Test.YbulkdqugRows
import Derived.Test.YbulkdqugLawB
import Derived.WalkKit
import Derived.ProofKit
import Derived.OpenShut
import Derived.ShutString
import Derived.ChangeOld
import Derived.Below
namespace Go.Proofs.Ybulkdqug.lawS5882BWhole
open Go.ChangeShapes Go.WideShapes Go.ChangeAt Go.RowKit
open Go.ChangeMaps (open_string shut_string)
set_option linter.unusedVariables false

theorem own : ownKnob Yba.prog.godebug = none := by kernel_rfl
theorem laidOut : laidOutB Yba.prog = true := by kernel_rfl

/-- WHAT THE WALK IS TOLD OF A SLICE OF INTEGERS THAT CAME IN: it is nil; or it leads to a row of 'cap' cells, the numbers 'zs' (the first 'len' are its elements, the rest its spare room), each fitting its kind. -/
def IsRow (k : IntKind) (w : World) (a : Option Addr) (len cap : Nat) (zs : List Int) : Prop :=
  (a = none ∧ len = 0 ∧ cap = 0 ∧ zs = []) ∨
  ∃ x, a = some x ∧ len ≤ cap ∧ cap ≤ maxLen ∧ zs.length = cap ∧ (∀ i, i < zs.length → w.cell? (x.add i) = some (.int k (zs.getD i 0))) ∧ ∀ n ∈ zs, (Lit.int k n).wf = true

/-! ### STEP 1: THE WALK: the plain numbers are named, then the walk of YbulkdqugLawB. -/
theorem idx_run (b off len cap i : Nat) (hi : i < len) (w : World) : (Instr.indexAt 23 (.slice (some ⟨b, off, none⟩) len cap) (.int .i64 i)).run Yba.prog w = .ok (.pointer (some ⟨b, off + i, none⟩)) w := by
  have h1 : (i : Int) < (len : Int) := by omega
  simp [go_sem, h1]

theorem row_of {w : World} {a : Option Addr} {len cap : Nat} {zs : List Int} (h : IsRow .i8 w a len cap zs) :
    ∃ (b off : Nat) (z : Nat → Int), (∀ i, i < len → -128 ≤ z i ∧ z i ≤ 127) ∧ (∀ i : Nat, i < len → ∀ w : World, (Instr.indexAt 23 (.slice a len cap) (.int .i64 i)).run Yba.prog w = .ok (.pointer (some ⟨b, off + i, none⟩)) w) ∧
      (∀ i, i < len → w.cell? ⟨b, off + i, none⟩ = some (.int .i8 (z i))) ∧ (0 < len → b < w.heap.size) ∧ len ≤ maxLen := by
  by_cases h0 : len = 0
  · subst h0
    exact ⟨0, 0, fun _ => 0, fun i h => absurd h (by omega), fun i h => absurd h (by omega), fun i h => absurd h (by omega), fun h => absurd h (by omega), by simp [maxLen]⟩
  · rcases h with ⟨rfl, h, -, -⟩ | ⟨x, rfl, hlc, hm, hzl, hcell, hwf⟩
    · exact absurd h h0
    · obtain ⟨b, off, spot⟩ := x
      have hspot : spot = none := by simpa [Addr.add] using World.cell?_spot (hcell 0 (by omega))
      subst hspot
      have hc' : ∀ i, i < len → w.cell? ⟨b, off + i, none⟩ = some (.int .i8 (zs.getD i 0)) := fun i hi => by
        have h1 := hcell i (by omega)
        rw [show (⟨b, off, none⟩ : Addr).add i = ⟨b, off + i, none⟩ from by unfold Addr.add; split <;> simp_all] at h1
        exact h1
      refine ⟨b, off, fun i => zs.getD i 0, fun i hi => ?_, fun i hi w => idx_run b off len cap i hi w, hc', fun h => World.block_lt_of_cell? _ _ (hc' 0 h), by omega⟩
      have hl : i < zs.length := by omega
      have hmem : zs.getD i 0 ∈ zs := by
        rw [List.getD_eq_getElem?_getD, List.getElem?_eq_getElem hl]
        exact List.getElem_mem hl
      exact bounds_i8 (hwf _ hmem)

theorem walk (a0 : Int) (a1 : Int) (a2 : Int) (a3 : Int) (a4 : Int) (a5 : Option Addr) (len5 cap5 : Nat) (z5 : List Int) (a6 : Option Addr) (len6 cap6 : Nat) (z6 : List Int) (w : World) (w0 : (Lit.int .u8 a0).wf = true) (w1 : (Lit.int .u8 a1).wf = true) (w2 : (Lit.int .u8 a2).wf = true) (w3 : (Lit.int .u8 a3).wf = true) (w4 : (Lit.int .u32 a4).wf = true) (w5 : IsRow .i8 w a5 len5 cap5 z5) (w6 : IsRow .i8 w a6 len6 cap6 z6) :
    Calls Yba.prog 3 #[.int .u8 a0, .int .u8 a1, .int .u8 a2, .int .u8 a3, .int .u32 a4, .slice a5 len5 cap5, .slice a6 len6 cap6] w fun e w' => e = .returned (.bool true) ∧ Below w.heap.size w w' := by
  obtain ⟨p0, p0'⟩ := bounds_u8 w0
  obtain ⟨p1, p1'⟩ := bounds_u8 w1
  obtain ⟨p2, p2'⟩ := bounds_u8 w2
  obtain ⟨p3, p3'⟩ := bounds_u8 w3
  obtain ⟨p4, p4'⟩ := bounds_u32 w4
  obtain ⟨b5, o5, y5, q51, q52, q53, q54, q55⟩ := row_of w5
  obtain ⟨b6, o6, y6, q61, q62, q63, q64, q65⟩ := row_of w6
  obtain ⟨r, er⟩ : ∃ r : Nat, a2 % 3 = r := ⟨(a2 % 3).toNat, by omega⟩
  obtain ⟨s, es⟩ : ∃ s : Nat, 2 * (r : Int) + 1 = s := ⟨2 * r + 1, by omega⟩
  obtain ⟨x0, e0⟩ : ∃ x : Nat, a0 % 20 = x := ⟨(a0 % 20).toNat, by omega⟩
  obtain ⟨x1, e1⟩ : ∃ x : Nat, a1 % 20 = x := ⟨(a1 % 20).toNat, by omega⟩
  obtain ⟨x3, e3⟩ : ∃ x : Nat, a3 % 10 = x := ⟨(a3 % 10).toNat, by omega⟩
  obtain ⟨Wn, ew⟩ : ∃ W : Nat, (s : Int) + x0 = W := ⟨s + x0, by omega⟩
  obtain ⟨Hn, eh⟩ : ∃ H : Nat, (s : Int) + x1 = H := ⟨s + x1, by omega⟩
  obtain ⟨d, ed⟩ : ∃ d : Nat, (x3 : Int) + 1 = d := ⟨x3 + 1, by omega⟩
  obtain ⟨T, eT⟩ : ∃ T : Nat, (Wn : Int) * Hn = T := ⟨Wn * Hn, by simp⟩
  obtain ⟨n2, e2⟩ : ∃ n : Nat, (s : Int) * s = n := ⟨s * s, by simp⟩
  obtain ⟨nv, ev⟩ : ∃ n : Nat, (T : Int) * d = n := ⟨T * d, by simp⟩
  have T1 : (1 : Int) ≤ T := by have := Int.mul_le_mul (show (1 : Int) ≤ Wn by omega) (show (1 : Int) ≤ Hn by omega) (by omega) (by omega); omega
  obtain ⟨u, eu⟩ : ∃ u : Nat, a4 % (T : Int) = u := ⟨(a4 % (T : Int)).toNat, by have := Int.emod_nonneg a4 (show (T : Int) ≠ 0 by omega); omega⟩
  exact K.lawB a0 a1 a2 a3 a4 a5 len5 cap5 b5 o5 y5 a6 len6 cap6 b6 o6 y6 w r s Wn Hn d T n2 nv u x0 x1 x3 er es e0 ew e1 eh e3 ed eT e2 ev eu p0 p0' p1 p1' p2 p2' p3 p3' p4 p4' q51 q61 q52 q53 q54 q62 q63 q64 q55 q65

/-! ### THE ROW's STEP: WRITTEN OUT: LEAVE IT -/
set_option maxRecDepth 100000 in
theorem lifted (os : Os) (started : os.Started) (H : Type) (enc : TypeId × Value → H) :
    ReturnsInHanded {} Yba.checked os 3 .any (Rows.lawS5882BWholeSpec.pre6 enc Yba.prog Yba.f3 Rows.lawS5882BWholeRow.domain false) (Rows.lawS5882BWholeSpec.post enc Yba.prog Yba.f3 false true false false) := by
  refine returnsInHanded_of_change (C := Yba.checked) own started (by kernel_rfl) Yba.func3
    (ChangeSpec.witness6 (enc := enc) (C := Yba.checked) false ⟨#[], #[.int .u8 0, .int .u8 0, .int .u8 0, .int .u8 0, .int .u32 0, .slice none 0 0, .slice none 0 0], []⟩ 8 (by kernel_rfl) (by kernel_rfl) (by kernel_rfl) (by kernel_rfl)) ?_
  intro W base args ds gs before hval0 hW hcnd _
  have hval : ∀ (j : Nat) t v, Yba.f3.params[j]? = some t → args[j]? = some v → Value.okWide Yba.prog W .any base t v := hval0
  have hW' := hW
  obtain ⟨p, q, hA0, hV, rfl, hfz, hnd⟩ := hW
  have hA : DataW.TrodAll enc Yba.prog W 0 (fun _ => true) true Yba.f3.params.toList args.toList ds p := hA0
  rw [Yba.params3] at hA hval
  obtain ⟨v0, vs0, d0, ds0, p0, q0, hargs, rfl, rfl, h0, r0⟩ := trodAll_cons hA
  obtain ⟨v1, vs1, d1, ds1, p1, q1, rfl, rfl, rfl, h1, r1⟩ := trodAll_cons r0
  obtain ⟨v2, vs2, d2, ds2, p2, q2, rfl, rfl, rfl, h2, r2⟩ := trodAll_cons r1
  obtain ⟨v3, vs3, d3, ds3, p3, q3, rfl, rfl, rfl, h3, r3⟩ := trodAll_cons r2
  obtain ⟨v4, vs4, d4, ds4, p4, q4, rfl, rfl, rfl, h4, r4⟩ := trodAll_cons r3
  obtain ⟨v5, vs5, d5, ds5, p5, q5, rfl, rfl, rfl, h5, r5⟩ := trodAll_cons r4
  obtain ⟨v6, vs6, d6, ds6, p6, q6, rfl, rfl, rfl, h6, r6⟩ := trodAll_cons r5
  obtain ⟨rfl, rfl, rfl⟩ := trodAll_nil r6
  obtain rfl : args = #[v0, v1, v2, v3, v4, v5, v6] := by cases args; simp_all
  obtain ⟨rfl, rfl⟩ := trodVars_none hV
  obtain ⟨a0, rfl, rfl, rfl, w0⟩ := open_int Yba.underlying5 (hval 0 5 v0 rfl rfl) h0
  obtain ⟨a1, rfl, rfl, rfl, w1⟩ := open_int Yba.underlying5 (hval 1 5 v1 rfl rfl) h1
  obtain ⟨a2, rfl, rfl, rfl, w2⟩ := open_int Yba.underlying5 (hval 2 5 v2 rfl rfl) h2
  obtain ⟨a3, rfl, rfl, rfl, w3⟩ := open_int Yba.underlying5 (hval 3 5 v3 rfl rfl) h3
  obtain ⟨a4, rfl, rfl, rfl, w4⟩ := open_int Yba.underlying22 (hval 4 22 v4 rfl rfl) h4
  obtain ⟨a5, len5, cap5, rfl⟩ := okWide_slice Yba.underlying23 (hval 5 23 v5 rfl rfl)
  have k5 := h5
  have lt5 : ∀ x ∈ p5, x.block < W.heap.size := by obtain ⟨m, hm⟩ := k5; exact DataW.trod_lt m _ _ _ hm
  obtain ⟨z5, w5⟩ : ∃ zs, IsRow .i8 W a5 len5 cap5 zs := by
    obtain ⟨fuel, hf⟩ := h5
    rcases open_ints Yba.underlying23 Yba.underlying25 (by kernel_rfl) hf with ⟨hcs, _⟩ | ⟨x, l, c, zs, hcs, _, hl, hm, hz, _, hcell, hwz⟩
    · simp [Value.cells] at hcs
      obtain ⟨rfl, rfl, rfl⟩ := hcs
      exact ⟨[], .inl ⟨rfl, rfl, rfl, rfl⟩⟩
    · simp [Value.cells] at hcs
      obtain ⟨rfl, rfl, rfl⟩ := hcs
      exact ⟨zs, .inr ⟨_, rfl, hl, hm, by simpa using hz, hcell, hwz⟩⟩
  obtain ⟨a6, len6, cap6, rfl⟩ := okWide_slice Yba.underlying23 (hval 6 23 v6 rfl rfl)
  have k6 := h6
  have lt6 : ∀ x ∈ p6, x.block < W.heap.size := by obtain ⟨m, hm⟩ := k6; exact DataW.trod_lt m _ _ _ hm
  obtain ⟨z6, w6⟩ : ∃ zs, IsRow .i8 W a6 len6 cap6 zs := by
    obtain ⟨fuel, hf⟩ := h6
    rcases open_ints Yba.underlying23 Yba.underlying25 (by kernel_rfl) hf with ⟨hcs, _⟩ | ⟨x, l, c, zs, hcs, _, hl, hm, hz, _, hcell, hwz⟩
    · simp [Value.cells] at hcs
      obtain ⟨rfl, rfl, rfl⟩ := hcs
      exact ⟨[], .inl ⟨rfl, rfl, rfl, rfl⟩⟩
    · simp [Value.cells] at hcs
      obtain ⟨rfl, rfl, rfl⟩ := hcs
      exact ⟨zs, .inr ⟨_, rfl, hl, hm, by simpa using hz, hcell, hwz⟩⟩
  clear hA0 hval0
  refine (walk a0 a1 a2 a3 a4 a5 len5 cap5 z5 a6 len6 cap6 z6 W w0 w1 w2 w3 w4 w5 w6).mono fun e W' ⟨he, bel⟩ => ?_
  subst he
  exact ⟨_, rfl, _, _, _, [], _, [], hW', trodAll_mk1 (shut_bool Yba.underlying4 _), (trodAll_cons_mk (shut_int Yba.underlying5 w0) (trodAll_cons_mk (shut_int Yba.underlying5 w1) (trodAll_cons_mk (shut_int Yba.underlying5 w2) (trodAll_cons_mk (shut_int Yba.underlying5 w3) (trodAll_cons_mk (shut_int Yba.underlying22 w4) (trodAll_cons_mk (Below.trod laidOut (by kernel_rfl) (of_decide_eq_true (by kernel_rfl)) k5 bel lt5) (trodAll_cons_mk (Below.trod laidOut (by kernel_rfl) (of_decide_eq_true (by kernel_rfl)) k6 bel lt6) trodAll_mk0))))))), rfl, bel.frame _, fun h => by cases h⟩

theorem over : Rows.lawS5882BWholeRow.holds Yba.pinned (OpenSpec.ofChange Rows.lawS5882BWholeSpec) :=
  OpenClaim.holds_of_wide 3 Yba.f3 rfl rfl rfl rfl rfl rfl rfl ⟨rfl, rfl, rfl, rfl, rfl⟩ rfl rfl rfl rfl rfl (by kernel_rfl) Yba.func3 (by kernel_rfl)
    (of_decide_eq_true (by kernel_rfl)) (by unfold Func.isWrapper; first | (rw [if_pos (by decide +kernel)]; kernel_rfl) | (rw [if_neg (by decide +kernel)]; exact ⟨rfl, rfl⟩))
    (fun os started H enc _ => lifted os started H enc)

/-- ████ THE STATEMENT ████ -/
theorem proved : Rows.LawS5882BWholeSaid := over
#print axioms proved
end Go.Proofs.Ybulkdqug.lawS5882BWhole
