/-
  'Rows.LawS5880AWholeSaid' ('example.com/crossbook/crossbook/book.LawS5880AWhole'), proved. The frame is the guide's (proof-skeleton.mjs); the walks lie in YbulkdqteWalk0 .. YbulkdqteWalk3.
-/
import Derived.Test.YbulkdqteRows
import Derived.Test.YbulkdqteWalk0
import Derived.Test.YbulkdqteWalk1
import Derived.Test.YbulkdqteWalk2
import Derived.Test.YbulkdqteWalk3
import Derived.WalkKit
import Derived.ProofKit
import Derived.OpenShut
import Derived.ShutString
namespace Go.Proofs.Ybulkdqte.lawS5880AWhole
open Go.ChangeShapes Go.WideShapes Go.ChangeAt Go.RowKit
open Go.ChangeMaps (open_string shut_string)
set_option linter.unusedVariables false      -- a walk need not use every 'w<i>' (that an integer argument fits its kind)

theorem own : ownKnob Yba.prog.godebug = none := by kernel_rfl

/-! ### STEP 1: THE WALK: the cases (mode % 4, vKind % 4, grand), each a walk of its own. -/
theorem walk (a0 : Int) (a1 : Int) (a2 : Bool) (w0 : (Lit.int .u8 a0).wf = true) (w1 : (Lit.int .u8 a1).wf = true) (w : World) :
    Calls Yba.prog 3 #[.int .u8 a0, .int .u8 a1, .bool a2] w fun e w' => e = .returned (.bool true) ∧ Grown w w' := by
  obtain ⟨b0, c0⟩ := bounds_u8 w0
  obtain ⟨b1, c1⟩ := bounds_u8 w1
  rcases (show a0 % 4 = 0 ∨ a0 % 4 = 1 ∨ a0 % 4 = 2 ∨ a0 % 4 = 3 from by omega) with h0 | h0 | h0 | h0 <;>
  rcases (show a1 % 4 = 0 ∨ a1 % 4 = 1 ∨ a1 % 4 = 2 ∨ a1 % 4 = 3 from by omega) with h1 | h1 | h1 | h1
  · exact walk00 a0 a1 a2 h0 h1 b0 c0 b1 c1 w
  · exact walk01 a0 a1 a2 h0 h1 b0 c0 b1 c1 w
  · exact walk02 a0 a1 a2 h0 h1 b0 c0 b1 c1 w
  · exact walk03 a0 a1 a2 h0 h1 b0 c0 b1 c1 w
  · cases a2
    · exact walk10f a0 a1 h0 h1 b0 c0 b1 c1 w
    · exact walk10t a0 a1 h0 h1 b0 c0 b1 c1 w
  · cases a2
    · exact walk11f a0 a1 h0 h1 b0 c0 b1 c1 w
    · exact walk11t a0 a1 h0 h1 b0 c0 b1 c1 w
  · cases a2
    · exact walk12f a0 a1 h0 h1 b0 c0 b1 c1 w
    · exact walk12t a0 a1 h0 h1 b0 c0 b1 c1 w
  · cases a2
    · exact walk13f a0 a1 h0 h1 b0 c0 b1 c1 w
    · exact walk13t a0 a1 h0 h1 b0 c0 b1 c1 w
  · cases a2
    · exact walk20f a0 a1 h0 h1 b0 c0 b1 c1 w
    · exact walk20t a0 a1 h0 h1 b0 c0 b1 c1 w
  · cases a2
    · exact walk21f a0 a1 h0 h1 b0 c0 b1 c1 w
    · exact walk21t a0 a1 h0 h1 b0 c0 b1 c1 w
  · cases a2
    · exact walk22f a0 a1 h0 h1 b0 c0 b1 c1 w
    · exact walk22t a0 a1 h0 h1 b0 c0 b1 c1 w
  · cases a2
    · exact walk23f a0 a1 h0 h1 b0 c0 b1 c1 w
    · exact walk23t a0 a1 h0 h1 b0 c0 b1 c1 w
  · cases a2
    · exact walk30f a0 a1 h0 h1 b0 c0 b1 c1 w
    · exact walk30t a0 a1 h0 h1 b0 c0 b1 c1 w
  · cases a2
    · exact walk31f a0 a1 h0 h1 b0 c0 b1 c1 w
    · exact walk31t a0 a1 h0 h1 b0 c0 b1 c1 w
  · cases a2
    · exact walk32f a0 a1 h0 h1 b0 c0 b1 c1 w
    · exact walk32t a0 a1 h0 h1 b0 c0 b1 c1 w
  · cases a2
    · exact walk33f a0 a1 h0 h1 b0 c0 b1 c1 w
    · exact walk33t a0 a1 h0 h1 b0 c0 b1 c1 w

/-! ### THE ROW's STEP: WRITTEN OUT: LEAVE IT -/
set_option maxRecDepth 100000 in
theorem lifted (os : Os) (started : os.Started) (H : Type) (enc : TypeId × Value → H) :
    ReturnsInHanded {} Yba.checked os 3 .any (Rows.lawS5880AWholeSpec.pre6 enc Yba.prog Yba.f3 Rows.lawS5880AWholeRow.domain false) (Rows.lawS5880AWholeSpec.post enc Yba.prog Yba.f3 false true false false) := by
  refine returnsInHanded_of_change (C := Yba.checked) own started (by kernel_rfl) Yba.func3
    (ChangeSpec.witness6 (enc := enc) (C := Yba.checked) false ⟨#[], #[.int .u8 0, .int .u8 0, .bool false], []⟩ 8 (by kernel_rfl) (by kernel_rfl) (by kernel_rfl) (by kernel_rfl)) ?_
  intro W base args ds gs before hval0 hW hcnd _
  have hval : ∀ (j : Nat) t v, Yba.f3.params[j]? = some t → args[j]? = some v → Value.okWide Yba.prog W .any base t v := hval0
  have hW' := hW
  obtain ⟨p, q, hA0, hV, rfl, hfz, hnd⟩ := hW
  have hA : DataW.TrodAll enc Yba.prog W 0 (fun _ => true) true Yba.f3.params.toList args.toList ds p := hA0
  rw [Yba.params3] at hA hval
  obtain ⟨v0, vs0, d0, ds0, p0, q0, hargs, rfl, rfl, h0, r0⟩ := trodAll_cons hA
  obtain ⟨v1, vs1, d1, ds1, p1, q1, rfl, rfl, rfl, h1, r1⟩ := trodAll_cons r0
  obtain ⟨v2, vs2, d2, ds2, p2, q2, rfl, rfl, rfl, h2, r2⟩ := trodAll_cons r1
  obtain ⟨rfl, rfl, rfl⟩ := trodAll_nil r2
  obtain rfl : args = #[v0, v1, v2] := by cases args; simp_all
  obtain ⟨rfl, rfl⟩ := trodVars_none hV
  obtain ⟨a0, rfl, rfl, rfl, w0⟩ := open_int Yba.underlying5 (hval 0 5 v0 rfl rfl) h0
  obtain ⟨a1, rfl, rfl, rfl, w1⟩ := open_int Yba.underlying5 (hval 1 5 v1 rfl rfl) h1
  obtain ⟨a2, rfl, rfl, rfl⟩ := open_bool Yba.underlying4 (hval 2 4 v2 rfl rfl) h2
  clear hA0 hval0
  simp only [List.append_nil] at hW'
  refine (walk a0 a1 a2 w0 w1 W).mono fun e W' ⟨he, hg⟩ => ?_
  subst he
  exact ⟨_, rfl, post_of_same (pa := []) (pv := []) hW' (fun _ _ _ => (trodAll_cons_mk (shut_bool Yba.underlying4 _) trodAll_mk0)) (fun sp _ => (trodAll_cons_mk (shut_int Yba.underlying5 w0) (trodAll_cons_mk (shut_int Yba.underlying5 w1) (trodAll_cons_mk (shut_bool Yba.underlying4 _) trodAll_mk0)))) (fun _ _ => rfl) rfl
    (hg.frame _) hg.2.1 (ok_one (by kernel_rfl) rfl (okWide_bool_mk Yba.underlying4 _))⟩

theorem over : Rows.lawS5880AWholeRow.holds Yba.pinned (OpenSpec.ofChange Rows.lawS5880AWholeSpec) :=
  OpenClaim.holds_of_wide 3 Yba.f3 rfl rfl rfl rfl rfl rfl rfl ⟨rfl, rfl, rfl, rfl, rfl⟩ rfl rfl rfl rfl rfl (by kernel_rfl) Yba.func3 (by kernel_rfl)
    (of_decide_eq_true (by kernel_rfl)) (by unfold Func.isWrapper; first | (rw [if_pos (by decide +kernel)]; kernel_rfl) | (rw [if_neg (by decide +kernel)]; exact ⟨rfl, rfl⟩))
    (fun os started H enc _ => lifted os started H enc)

/-- ████ THE STATEMENT ████ -/
theorem proved : Rows.LawS5880AWholeSaid :=
  over
end Go.Proofs.Ybulkdqte.lawS5880AWhole
