/-
  LawS5882BWhole: the walk of the law.
-/
import Derived.Test.YbulkdqugBWord
import Derived.Deep.OwnRows
namespace Go.Proofs.Ybulkdqug.K
open Go.RowKit Go.BigFrame
set_option linter.unusedSimpArgs false
set_option linter.unusedVariables false
theorem make24 (n : Nat) (hn : n ≤ 100) (w : World) : (Instr.makeSlice 24 (.int .i64 (n : Int)) (.int .i64 (n : Int))).run Yba.prog w = .ok (.slice (some ⟨w.heap.size, 0, none⟩) n n) (w.alloc (.cells (madeCells #[.int .i64 0] n) 3)) :=
  run_make_row' 24 3 (.int .i64 0) 8 Yba.underlying24 info3 rfl .i64 .i64 n (by omega) (by omega) w
theorem make23 (n : Nat) (hn : n ≤ 10000) (w : World) : (Instr.makeSlice 23 (.int .i64 (n : Int)) (.int .i64 (n : Int))).run Yba.prog w = .ok (.slice (some ⟨w.heap.size, 0, none⟩) n n) (w.alloc (.cells (madeCells #[.int .i8 0] n) 25)) :=
  run_make_row' 23 25 (.int .i8 0) 1 Yba.underlying23 info25 rfl .i64 .i64 n (by omega) (by omega) w
theorem made_at' (z : Value) (n i : Nat) (hi : i < n) : (madeCells #[z] n)[i]? = some z := by
  rw [← Array.getElem?_toList, toList_madeCells_one]
  simp [hi]
/-- What the law lays into the table of slots. -/
def slF (z : Nat → Int) (len d : Nat) (i : Nat) : Int := if i < len then (if z i < 0 then -1 else z i % (d : Int)) else (i : Int) % (d : Int)
theorem slF_lt (z : Nat → Int) (len d : Nat) (hd : 1 ≤ d) (i : Nat) : -1 ≤ slF z len d i ∧ slF z len d i < d := by
  unfold slF
  have h1 := Int.emod_lt_of_pos (z i) (show (0 : Int) < (d : Int) by omega)
  have h2 := Int.emod_nonneg (z i) (show (d : Int) ≠ 0 by omega)
  have h3 := Int.emod_lt_of_pos (i : Int) (show (0 : Int) < (d : Int) by omega)
  have h4 := Int.emod_nonneg (i : Int) (show (d : Int) ≠ 0 by omega)
  split
  · split <;> omega
  · omega
/-- What the law lays into the values. -/
def vaF (z : Nat → Int) (len : Nat) (i : Nat) : Int := if 0 < len then z (i % len) else -1
def part (F : Nat → Int) (k : Nat) : Nat → Int := fun i => if i < k then F i else 0
theorem Row.put {kk : IntKind} {w : World} {B n k : Nat} {F : Nat → Int} (h : Row kk w B n (part F k)) (v : Int) (hv : F k = v) : Row kk (w.setCell ⟨B, k, none⟩ (.int kk v)) B n (part F (k + 1)) := by
  intro i hi
  have h1 := h i hi
  by_cases e : i = k
  · subst e
    have : part F (i + 1) i = v := by simp [part, hv]
    rw [this]
    exact h1.set_same _
  · have : part F (k + 1) i = part F k i := by
      simp only [part]
      by_cases c : i < k
      · rw [if_pos c, if_pos (by omega)]
      · rw [if_neg c, if_neg (by omega)]
    rw [this]
    exact h1.set_other (by omega) _
theorem Row.full {kk : IntKind} {w : World} {B n k : Nat} {F : Nat → Int} (h : Row kk w B n (part F k)) (hk : n ≤ k) : Row kk w B n F := by
  intro i hi
  have := h i hi
  rw [show part F k i = F i from by simp only [part]; rw [if_pos (by omega)]] at this
  exact this
theorem Row.start (kk : IntKind) (t : TypeId) (w : World) (n : Nat) (F : Nat → Int) : Row kk (w.alloc (.cells (madeCells #[.int kk 0] n) t)) w.heap.size n (part F 0) := by
  intro i hi
  have : part F 0 i = 0 := by simp [part]
  rw [this]
  exact At.new (made_at' _ n i hi)
theorem Row.set_other {kk : IntKind} {w : World} {B n : Nat} {F : Nat → Int} (h : Row kk w B n F) {b o : Nat} (hne : b ≠ B) (v : Value) : Row kk (w.setCell ⟨b, o, none⟩ v) B n F := fun i hi => (h i hi).set_other (.inl hne) v
theorem idx_ok (r : Nat) (c : Int) (hr : r ≤ 2) (h1 : -(r : Int) ≤ c) (h2 : c ≤ r) : 0 ≤ (c + r) * (2 * (r : Int) + 1) ∧ (c + r) * (2 * (r : Int) + 1) + (2 * (r : Int) + 1) ≤ (2 * (r : Int) + 1) * (2 * (r : Int) + 1) := by
  obtain rfl | rfl | rfl : r = 0 ∨ r = 1 ∨ r = 2 := by omega
  all_goals omega
theorem dec_iff {p q : Prop} [Decidable p] [Decidable q] (h : p ↔ q) : decide p = decide q := decide_eq_decide.2 h
theorem Row.drewN {k : IntKind} {w : World} {B n : Nat} {f : Nat → Int} (h : Row k w B n f) (q : Nat) : Row k (w.drewN q) B n f := fun i hi => ⟨(h i hi).1, (h i hi).2⟩
/-- The law's memory ahead of sourceWord and behind it. -/
structure PB (w v : World) (N A S V C3 C4 n2 nv : Nat) (W H r d : Int) (F g : Nat → Int) : Prop where
  net : Net v N S n2 W H r d F
  ann : At v A 1 (.slice (some ⟨V, 0, none⟩) nv nv)
  vals : Row .i8 v V nv g
  k3 : Row .i64 v C3 n2 F
  k4 : Row .i8 v C4 nv g
  bel : Below w.heap.size w v
  lts : S < v.heap.size ∧ V < v.heap.size ∧ C3 < v.heap.size ∧ C4 < v.heap.size ∧ N < v.heap.size ∧ A < v.heap.size ∧ w.heap.size ≤ v.heap.size
theorem PB.later {w v v' : World} {N A S V C3 C4 n2 nv : Nat} {W H r d : Int} {F g : Nat → Int} (h : PB w v N A S V C3 C4 n2 nv W H r d F g) (hb : Below v.heap.size v v') : PB w v' N A S V C3 C4 n2 nv W H r d F g := by
  obtain ⟨h1, h2, h3, h4, h5, h6, l1, l2, l3, l4, l5, l6, l7⟩ := h
  have := hb.size
  exact ⟨h1.later hb l5 l1, h2.later hb l6, h3.later hb (.inr l2), h4.later hb (.inr l3), h5.later hb (.inr l4), h6.trans (hb.mono l7), by omega, by omega, by omega, by omega, by omega, by omega, by omega⟩
theorem Row.lt {k : IntKind} {w : World} {B n : Nat} {f : Nat → Int} (h : Row k w B n f) (hn : 0 < n) : B < w.heap.size := (h 0 hn).lt
theorem PB.make {w v1 v2 v3 v4 : World} {C3 C4 n2 nv : Nat} {W H r d : Int} {F g : Nat → Int} (n2p : 0 < n2) (nvp : 0 < nv)
    (K : Row IntKind.i64 v2 w.heap.size n2 F ∧ (Row IntKind.i8 v2 v1.heap.size nv g ∧ Below v1.heap.size v1 v2 ∧ v1.heap.size < v2.heap.size) ∧ (Below w.heap.size w v1 ∧ w.heap.size < v1.heap.size) ∧
          v2.heap.size ≤ C3 ∧ Row IntKind.i64 v3 C3 n2 F ∧ Below v2.heap.size v2 v3 ∧ v3.heap.size ≤ C4 ∧ Row IntKind.i8 v4 C4 nv g ∧ Below v3.heap.size v3 v4) :
    PB w ((v4.alloc (Obj.cells #[Value.int IntKind.i64 W, Value.int IntKind.i64 H, Value.int IntKind.i64 r, Value.string { data := #[] }, Value.nilIface, Value.slice none 0 0, Value.int IntKind.i64 d, Value.slice none 0 0, Value.slice (some { block := w.heap.size, off := 0 }) n2 n2] 38)).alloc
      (Obj.cells #[Value.pointer (some { block := v4.heap.size, off := 0 }), Value.slice (some { block := v1.heap.size, off := 0 }) nv nv] 40)) v4.heap.size (v4.heap.size + 1) w.heap.size v1.heap.size C3 C4 n2 nv W H r d F g := by
  obtain ⟨h1, ⟨h2, h3, h4⟩, ⟨h5, h6⟩, h7, h8, h9, h10, h11, h12⟩ := K
  have l3 := h8.lt n2p
  have l4 := h11.lt nvp
  have z3 := h9.size
  have z4 := h12.size
  generalize ha : v4.alloc (Obj.cells #[Value.int IntKind.i64 W, Value.int IntKind.i64 H, Value.int IntKind.i64 r, Value.string { data := #[] }, Value.nilIface, Value.slice none 0 0, Value.int IntKind.i64 d, Value.slice none 0 0, Value.slice (some { block := w.heap.size, off := 0 }) n2 n2] 38) = va
  have sa : va.heap.size = v4.heap.size + 1 := by rw [← ha]; simp
  have ba : Below v4.heap.size v4 va := by rw [← ha]; exact (Below.refl _ _).alloc (Nat.le_refl _) _
  have a0 : At va v4.heap.size 0 (.int .i64 W) := by rw [← ha]; exact At.new rfl
  have a1 : At va v4.heap.size 1 (.int .i64 H) := by rw [← ha]; exact At.new rfl
  have a2 : At va v4.heap.size 2 (.int .i64 r) := by rw [← ha]; exact At.new rfl
  have a6 : At va v4.heap.size 6 (.int .i64 d) := by rw [← ha]; exact At.new rfl
  have a8 : At va v4.heap.size 8 (.slice (some { block := w.heap.size, off := 0 }) n2 n2) := by rw [← ha]; exact At.new rfl
  clear ha
  have bb : ∀ o : Obj, Below va.heap.size va (va.alloc o) := fun o => (Below.refl _ _).alloc (Nat.le_refl _) _
  have bc : ∀ o : Obj, Below v4.heap.size v4 (va.alloc o) := fun o => ba.trans ((bb o).mono (by omega))
  have b3 : ∀ o : Obj, Below v3.heap.size v3 (va.alloc o) := fun o => h12.trans ((bc o).mono (by omega))
  have b2 : ∀ o : Obj, Below v2.heap.size v2 (va.alloc o) := fun o => h9.trans ((b3 o).mono (by omega))
  refine ⟨⟨a0.later (bb _) (by omega), a1.later (bb _) (by omega), a2.later (bb _) (by omega), a6.later (bb _) (by omega), a8.later (bb _) (by omega), h1.later (b2 _) (.inr (by omega))⟩, ?_, h2.later (b2 _) (.inr (by omega)), h8.later (b3 _) (.inr (by omega)), h11.later (bc _) (.inr (by omega)), ?_, ?_⟩
  · rw [← sa]; exact At.new rfl
  · exact h5.trans ((h3.mono (by omega)).trans ((b2 _).mono (by omega)))
  · have e : ∀ o : Obj, (va.alloc o).heap.size = va.heap.size + 1 := fun o => by simp
    rw [e]; omega
theorem modB_zero (W r x E ax m : Int) (hr : 0 ≤ r) (hx : 0 ≤ x) (hxW : x < W) (hW : 2 * r + 1 ≤ W) (hE : -r ≤ E) (hE2 : E ≤ r) (hax : wrapB (-x) W r = ax) (hm : modB (E + x) W = m) : m = 0 ↔ E = ax := by
  unfold wrapB at hax
  unfold modB at hm
  rw [if_neg (by omega)] at hax
  split at hax <;> split at hm <;> (try split at hm) <;> omega
theorem wrapB_bounds (W r x ax : Int) (hr : 0 ≤ r) (hx : 0 ≤ x) (hxW : x < W) (hax : wrapB (-x) W r = ax) : -r ≤ ax ∧ ax ≤ W := by
  unfold wrapB at hax
  rw [if_neg (by omega)] at hax
  split at hax <;> omega
set_option maxHeartbeats 1600000 in
set_option maxRecDepth 100000 in
theorem lawB (a0 a1 a2 a3 a4 : Int) (a5 : Option Addr) (len5 cap5 b5 o5 : Nat) (z5 : Nat → Int) (a6 : Option Addr) (len6 cap6 b6 o6 : Nat) (z6 : Nat → Int) (w : World)
    (r s Wn Hn d T n2 nv u x0 x1 x3 : Nat)
    (er : a2 % 3 = r) (es : 2 * (r : Int) + 1 = s) (e0 : a0 % 20 = x0) (ew : (s : Int) + x0 = Wn) (e1 : a1 % 20 = x1) (eh : (s : Int) + x1 = Hn) (e3 : a3 % 10 = x3) (ed : (x3 : Int) + 1 = d) (eT : (Wn : Int) * Hn = T) (e2 : (s : Int) * s = n2) (env : (T : Int) * d = nv) (eu : a4 % (T : Int) = u)
    (p0 : 0 ≤ a0) (p0' : a0 ≤ 255) (p1 : 0 ≤ a1) (p1' : a1 ≤ 255) (p2 : 0 ≤ a2) (p2' : a2 ≤ 255) (p3 : 0 ≤ a3) (p3' : a3 ≤ 255) (p4 : 0 ≤ a4) (p4' : a4 ≤ 4294967295)
    (hz5 : ∀ i, i < len5 → -128 ≤ z5 i ∧ z5 i ≤ 127) (hz6 : ∀ i, i < len6 → -128 ≤ z6 i ∧ z6 i ≤ 127)
    (hidx5 : ∀ i : Nat, i < len5 → ∀ w : World, (Instr.indexAt 23 (.slice a5 len5 cap5) (.int .i64 i)).run Yba.prog w = .ok (.pointer (some ⟨b5, o5 + i, none⟩)) w)
    (hcell5 : ∀ i, i < len5 → w.cell? ⟨b5, o5 + i, none⟩ = some (.int .i8 (z5 i))) (hb5 : 0 < len5 → b5 < w.heap.size)
    (hidx6 : ∀ i : Nat, i < len6 → ∀ w : World, (Instr.indexAt 23 (.slice a6 len6 cap6) (.int .i64 i)).run Yba.prog w = .ok (.pointer (some ⟨b6, o6 + i, none⟩)) w)
    (hcell6 : ∀ i, i < len6 → w.cell? ⟨b6, o6 + i, none⟩ = some (.int .i8 (z6 i))) (hb6 : 0 < len6 → b6 < w.heap.size) (hl5 : len5 ≤ maxLen) (hl6 : len6 ≤ maxLen) :
    Calls Yba.prog 3 #[.int .u8 a0, .int .u8 a1, .int .u8 a2, .int .u8 a3, .int .u32 a4, .slice a5 len5 cap5, .slice a6 len6 cap6] w fun e w' => e = .returned (.bool true) ∧ Below w.heap.size w w' := by
  have r2 : r ≤ 2 := by omega
  have s5 : s ≤ 5 := by omega
  have s1 : 1 ≤ s := by omega
  have W1 : s ≤ Wn := by omega
  have W2 : Wn ≤ 24 := by omega
  have H1 : s ≤ Hn := by omega
  have H2 : Hn ≤ 24 := by omega
  have d1 : 1 ≤ d := by omega
  have d2 : d ≤ 10 := by omega
  have T2 : T ≤ 576 := by have := Int.mul_le_mul (show (Wn : Int) ≤ 24 by omega) (show (Hn : Int) ≤ 24 by omega) (by omega) (by omega); omega
  have T1 : 1 ≤ T := by have := Int.mul_le_mul (show (1 : Int) ≤ Wn by omega) (show (1 : Int) ≤ Hn by omega) (by omega) (by omega); omega
  have n25 : n2 ≤ 25 := by have := Int.mul_le_mul (show (s : Int) ≤ 5 by omega) (show (s : Int) ≤ 5 by omega) (by omega) (by omega); omega
  have nv2 : nv ≤ 5760 := by have := Int.mul_le_mul (show (T : Int) ≤ 576 by omega) (show (d : Int) ≤ 10 by omega) (by omega) (by omega); omega
  have hmk := make24 n2 (by omega)
  have Hz5 := hidIt hz5
  have Hz6 := hidIt hz6
  have Hidx5 := hidIt hidx5
  have Hidx6 := hidIt hidx6
  have Hcell5 := hidIt hcell5
  have Hcell6 := hidIt hcell6
  have Hes := hidIt es
  have HeT := hidIt eT
  have He2 := hidIt e2
  have Henv := hidIt env
  have Heu := hidIt eu
  clear hz5 hz6 hidx5 hidx6 hcell5 hcell6 env eu
  go_enter Yba.func3, Yba.ntmps3
  go_upto_block 0 with fail
  clear hmk er es e0 ew e1 eh e3 ed eT e2
  have nd : ¬ d = 0 := by omega
  go_cut [22, 74] (fun _ _ v1 => Hid (Row .i64 v1 w.heap.size n2 (slF z5 len5 d) ∧ Below w.heap.size w v1 ∧ w.heap.size < v1.heap.size))
  case first =>
    as_aux_lemma =>
    go_wp2
    go_loopw [22, 74] (fun _ c wr => ∃ k : Nat, c = .int .i64 k ∧ k ≤ n2 ∧ Hid (Row .i64 wr w.heap.size n2 (part (slF z5 len5 d) k) ∧ Below w.heap.size w wr ∧ w.heap.size < wr.heap.size)) (fun _ c _ => n2 - (intOf c).toNat)
    case atStart => exact ⟨0, rfl, by omega, hidIt ⟨Row.start .i64 3 w n2 _, (Below.refl _ _).alloc (Nat.le_refl _) _, by simp⟩⟩
    case round =>
      obtain ⟨k, rfl, hk, G⟩ := hrel
      by_cases hlt : k < n2
      · obtain ⟨c0, f0⟩ := G.out.1 k hlt
        have i0 : (0 : Int) ≤ (k : Int) := by omega
        have i1 : (k : Int) < (n2 : Int) := by omega
        obtain ⟨q1, q2⟩ := slF_lt z5 len5 d d1 k
        obtain ⟨v, hv⟩ : ∃ v, slF z5 len5 d k = v := ⟨_, rfl⟩
        rw [hv] at q1 q2
        have Hv := hidIt hv
        by_cases hl : k < len5
        · have d0 := bcell G.out.2.1 (hb5 (by omega)) (Hcell5.out k hl)
          have hix := Hidx5.out k hl
          obtain ⟨y1, y2⟩ := Hz5.out k hl
          have i2 : (k : Int) < (len5 : Int) := by omega
          by_cases hneg : z5 k < 0
          · have e : v = -1 := by rw [← hv]; unfold slF; rw [if_pos hl, if_pos hneg]
            subst e
            clear hv hl
            go_wp2
            go_roundw
            case rel => exact ⟨k + 1, by go_num, by omega, hidIt ⟨G.out.1.put _ Hv.out, G.out.2.1.setCell (by simp) _, by simpa using G.out.2.2⟩⟩
            case measure => simp [intOf]; omega
          · have e : z5 k % (d : Int) = v := by rw [← hv]; unfold slF; rw [if_pos hl, if_neg hneg]
            have e' : (z5 k).tmod (d : Int) = v := by rw [Int.tmod_eq_emod_of_nonneg (by omega), e]
            have t4 : IntKind.i64.wrap (z5 k) = z5 k := by rw [IntKind.wrap_i64]; omega
            clear hv hl
            go_wp2
            go_roundw
            case rel => exact ⟨k + 1, by go_num, by omega, hidIt ⟨G.out.1.put _ Hv.out, G.out.2.1.setCell (by simp) _, by simpa using G.out.2.2⟩⟩
            case measure => simp [intOf]; omega
        · have e : (k : Int) % (d : Int) = v := by rw [← hv]; unfold slF; rw [if_neg hl]
          have e' : (k : Int).tmod (d : Int) = v := by rw [Int.tmod_eq_emod_of_nonneg (by omega), e]
          have i2 : ¬ (k : Int) < (len5 : Int) := by omega
          clear hv
          go_wp2
          go_roundw
          case rel => exact ⟨k + 1, by go_num, by omega, hidIt ⟨G.out.1.put _ Hv.out, G.out.2.1.setCell (by simp) _, by simpa using G.out.2.2⟩⟩
          case measure => simp [intOf]; omega
      · go_wp2
        go_meet
        case rel => exact hidIt ⟨G.out.1.full (by omega), G.out.2⟩
  case rest =>
  have K1 := hcut
  clear hcut
  obtain ⟨v1, rfl⟩ : ∃ v1, v1 = wc := ⟨_, rfl⟩
  have hmv := make23 nv (by omega)
  have env := Henv.out
  go_upto_block 2 with fail
  clear hmv env
  go_cut [24, 112] (fun _ _ v2 => Hid (Row .i8 v2 v1.heap.size nv (vaF z6 len6) ∧ Below v1.heap.size v1 v2 ∧ v1.heap.size < v2.heap.size))
  case first =>
    as_aux_lemma =>
    go_wp2
    go_loopw [24, 112] (fun _ c wr => ∃ k : Nat, c = .int .i64 k ∧ k ≤ nv ∧ Hid (Row .i8 wr v1.heap.size nv (part (vaF z6 len6) k) ∧ Below v1.heap.size v1 wr ∧ v1.heap.size < wr.heap.size)) (fun _ c _ => nv - (intOf c).toNat)
    case atStart => exact ⟨0, rfl, by omega, hidIt ⟨Row.start .i8 25 v1 nv _, (Below.refl _ _).alloc (Nat.le_refl _) _, by simp⟩⟩
    case round =>
      obtain ⟨k, rfl, hk, G⟩ := hrel
      by_cases hlt : k < nv
      · obtain ⟨c0, f0⟩ := G.out.1 k hlt
        have i0 : (0 : Int) ≤ (k : Int) := by omega
        have i1 : (k : Int) < (nv : Int) := by omega
        by_cases hl : 0 < len6
        · obtain ⟨m, hm⟩ : ∃ m, k % len6 = m := ⟨_, rfl⟩
          have hml : m < len6 := by rw [← hm]; exact Nat.mod_lt _ hl
          have Hv : Hid (vaF z6 len6 k = z6 m) := hidIt (by unfold vaF; rw [if_pos hl, hm])
          have e : (k : Int) % (len6 : Int) = (m : Int) := by rw [← hm]; simp
          have e' : (k : Int).tmod (len6 : Int) = (m : Int) := by rw [Int.tmod_eq_emod_of_nonneg (by omega), e]
          have d0 := bcell (K1.out.2.1.trans (G.out.2.1.mono K1.out.2.1.size)) (hb6 hl) (Hcell6.out m hml)
          have hix := Hidx6.out m hml
          have nl : ¬ len6 = 0 := by omega
          have i2 : (0 : Int) < (len6 : Int) := by omega
          have i3 : (m : Int) < (len6 : Int) := by omega
          have i4 : (0 : Int) ≤ (m : Int) := by omega
          clear hm hl
          go_wp2
          go_roundw
          case rel => exact ⟨k + 1, by go_num, by omega, hidIt ⟨G.out.1.put _ Hv.out, G.out.2.1.setCell (by simp) _, by simpa using G.out.2.2⟩⟩
          case measure => simp [intOf]; omega
        · have Hv : Hid (vaF z6 len6 k = -1) := hidIt (by unfold vaF; rw [if_neg hl])
          have i2 : ¬ (0 : Int) < (len6 : Int) := by omega
          go_wp2
          go_roundw
          case rel => exact ⟨k + 1, by go_num, by omega, hidIt ⟨G.out.1.put _ Hv.out, G.out.2.1.setCell (by simp) _, by simpa using G.out.2.2⟩⟩
          case measure => simp [intOf]; omega
      · go_wp2
        go_meet
        case rel => exact hidIt ⟨G.out.1.full (by omega), G.out.2⟩
  case rest =>
  have K2 := hcut
  clear hcut
  obtain ⟨v2, rfl⟩ : ∃ v2, v2 = wc := ⟨_, rfl⟩
  have nn2 : 0 < n2 := by have := Int.mul_le_mul (show (1 : Int) ≤ s by omega) (show (1 : Int) ≤ s by omega) (by omega) (by omega); have := He2.out; omega
  have nnv : 0 < nv := by have := Int.mul_le_mul (show (1 : Int) ≤ T by omega) (show (1 : Int) ≤ d by omega) (by omega) (by omega); have := Henv.out; omega
  have R1 := hidIt (K1.out.1.later K2.out.2.1 (.inr K1.out.2.2))
  have eu := Heu.out
  have nT : ¬ T = 0 := by omega
  have uT : u < T := by have := Int.emod_lt_of_pos a4 (show (0 : Int) < (T : Int) by omega); omega
  have uB : (u : Int) ≤ 575 := by omega
  obtain ⟨x, hx⟩ : ∃ x, (u : Int) % (Wn : Int) = x := ⟨_, rfl⟩
  obtain ⟨y, hy⟩ : ∃ y, (u : Int) / (Wn : Int) = y := ⟨_, rfl⟩
  have x1' : 0 ≤ x := by rw [← hx]; exact Int.emod_nonneg _ (by omega)
  have x2' : x < Wn := by rw [← hx]; exact Int.emod_lt_of_pos _ (by omega)
  have y1' : 0 ≤ y := by rw [← hy]; exact Int.ediv_nonneg (by omega) (by omega)
  have y2' : y < Hn := by
    rw [← hy]
    exact Int.ediv_lt_of_lt_mul (by omega) (by have := HeT.out; rw [Int.mul_comm]; omega)
  obtain ⟨ax, hax⟩ : ∃ ax, wrapB (-x) (Wn : Int) (r : Int) = ax := ⟨_, rfl⟩
  obtain ⟨ay, hay⟩ : ∃ ay, wrapB (-y) (Hn : Int) (r : Int) = ay := ⟨_, rfl⟩
  obtain ⟨t, ht⟩ : ∃ t, slotB ax ay r (slF z5 len5 d) = t := ⟨_, rfl⟩
  have td : t < d := by
    rw [← ht]; unfold slotB
    split
    · exact (slF_lt z5 len5 d d1 _).2
    · omega
  obtain ⟨p, hp⟩ : ∃ p, p = u * d := ⟨_, rfl⟩
  have pd : p + d ≤ nv := by
    have h1 := Nat.mul_le_mul (show u + 1 ≤ T by omega) (Nat.le_refl d)
    have h2 : T * d = nv := by have := Henv.out; exact_mod_cast this
    rw [Nat.add_mul, h2] at h1
    omega
  have hg : ∀ i, i < nv → -128 ≤ vaF z6 len6 i ∧ vaF z6 len6 i ≤ 127 := by
    intro i hi
    unfold vaF
    split
    · rename_i h; exact Hz6.out _ (Nat.mod_lt _ h)
    · omega
  have hn' : (n2 : Int) = (2 * (r : Int) + 1) * (2 * (r : Int) + 1) := by rw [Hes.out, He2.out]
  obtain ⟨rv, hrv⟩ : ∃ v, (if t < 0 then 0 else vaF z6 len6 (p + t.toNat)) = v := ⟨_, rfl⟩
  obtain ⟨rh, hrh⟩ : ∃ v, (if t < 0 then false else vaF z6 len6 (p + t.toNat) != -1) = v := ⟨_, rfl⟩
  obtain ⟨rn, hrn⟩ : ∃ v, (!decide (t < 0)) = v := ⟨_, rfl⟩
  have Hsw := hidIt (fun (vv : World) (N C3 C4 A : Nat) (h : PB w vv N A w.heap.size v1.heap.size C3 C4 n2 nv Wn Hn r d (slF z5 len5 d) (vaF z6 len6)) =>
    sourceWord_any N w.heap.size v1.heap.size n2 nv Wn Hn r x y ax ay t d u p (slF z5 len5 d) (vaF z6 len6) hx hy hax hay ht (by omega) (by omega) (by omega) (by omega) (by omega) (by omega) (by omega) x1' (by omega) y1' (by omega) hn' hp d1 d2 pd td hg vv h.lts.1 h.lts.2.1 h.net h.vals)
  rw [hrv, hrh, hrn] at Hsw
  have Hx := hidIt hx
  have Hy := hidIt hy
  have Hax := hidIt hax
  have Hay := hidIt hay
  have Ht := hidIt ht
  have Hp := hidIt hp
  have Hrv := hidIt hrv
  have Hrh := hidIt hrh
  have Hrn := hidIt hrn
  have Hg := hidIt hg
  clear hx hy hax hay ht hp hrv hrh hrn hg hn' pd uT
  go_wp2_with (first
    | (go_at_call 7; refine (Hsw.out _ _ _ _ _ K4.out).mono ?_; rintro _ v5 ⟨rfl, hb5'⟩; have K5 := hidIt (K4.out.later hb5'); clear hb5')
    | (go_at_call 6; refine (clone_int8 v1.heap.size nv nv _ nnv (by omega) v3 R23.out).mono ?_; rintro _ v4 ⟨_, rfl, C4, c4, rfl, hC4, Q4, hb4⟩; have K4 := hidIt (PB.make (W := Wn) (H := Hn) (r := r) (d := d) nn2 nnv ⟨R1.out, K2.out, K1.out.2, hC3, Q3, hb3, hC4, Q4, hb4⟩); clear hC3 Q3 hb3 hC4 Q4 hb4)
    | (go_at_call 5; refine (clone_int w.heap.size n2 n2 _ nn2 (by omega) v2 R1.out).mono ?_; rintro _ v3 ⟨_, rfl, C3, c3, rfl, hC3, Q3, hb3⟩; have R23 := hidIt (K2.out.1.later hb3 (.inr K2.out.2.2))))
  have nW : ¬ Wn = 0 := by omega
  have xe := Hx.out
  have ye := Hy.out
  have xt : (u : Int).tmod (Wn : Int) = x := by rw [Int.tmod_eq_emod_of_nonneg (by omega), xe]
  have yq : IntKind.i64.wrap ((u : Int).tdiv (Wn : Int)) = y := by rw [Int.tdiv_eq_ediv_of_nonneg (by omega), ye, IntKind.wrap_i64]; omega
  go_quiet (fail)
  clear xe ye xt yq
  obtain ⟨v6, hv6⟩ : ∃ v, v = v5.drewN nq := ⟨_, rfl⟩
  rw [← hv6]
  have K6 : Hid (PB w v6 v4.heap.size (v4.heap.size + 1) w.heap.size v1.heap.size C3 C4 n2 nv Wn Hn r d (slF z5 len5 d) (vaF z6 len6)) := by rw [hv6]; exact hidIt (K5.out.later (below_drewN (Below.refl _ _) _))
  clear hv6 K5
  obtain ⟨N, hN⟩ : ∃ N, N = v4.heap.size := ⟨_, rfl⟩
  obtain ⟨A, hA⟩ : ∃ A, A = v4.heap.size + 1 := ⟨_, rfl⟩
  rw [← hA, ← hN] at K6
  rw [← hA, ← hN]
  clear hN hA K4
  obtain ⟨ax1, ax2⟩ := wrapB_bounds Wn r x ax (by omega) x1' x2' Hax.out
  obtain ⟨ay1, ay2⟩ := wrapB_bounds Hn r y ay (by omega) y1' y2' Hay.out
  have sr := Hes.out
  have wr1 : 2 * (r : Int) + 1 ≤ Wn := by omega
  have hr1 : 2 * (r : Int) + 1 ≤ Hn := by omega
  clear sr
  go_upto_block 4 with fail
  go_cut [35, 36, 37, 38, 39] (fun c1 c2 f1 f2 _ v => v = v6 ∧ ∃ cx cy : Int, ∃ fx fy : Bool, c1 = .int .i64 cx ∧ c2 = .int .i64 cy ∧ f1 = .bool fx ∧ f2 = .bool fy ∧ Hid (fx = decide (ax ≤ r) ∧ fy = decide (ay ≤ r) ∧ (ax ≤ r → cx = ax) ∧ (ay ≤ r → cy = ay)))
  case first =>
    as_aux_lemma =>
    go_wp2
    go_loopw [35, 36, 37, 38, 39] (fun c1 c2 f1 f2 c v => v = v6 ∧ ∃ E cx cy : Int, ∃ fx fy : Bool, c1 = .int .i64 cx ∧ c2 = .int .i64 cy ∧ f1 = .bool fx ∧ f2 = .bool fy ∧ c = .int .i64 E ∧ -(r : Int) ≤ E ∧ E ≤ (r : Int) + 1 ∧ Hid (fx = decide (ax < E) ∧ fy = decide (ay < E) ∧ (ax < E → cx = ax) ∧ (ay < E → cy = ay))) (fun _ _ _ _ c _ => ((r : Int) + 1 - intOf c).toNat)
    case atStart => exact ⟨rfl, -(r : Int), 0, 0, false, false, rfl, rfl, rfl, rfl, rfl, by omega, by omega, hidIt ⟨(decide_eq_false (by omega)).symm, (decide_eq_false (by omega)).symm, fun h => absurd h (by omega), fun h => absurd h (by omega)⟩⟩
    case round =>
      obtain ⟨rfl, E, cx, cy, fx, fy, rfl, rfl, rfl, rfl, rfl, E1, E2, G⟩ := hrel
      by_cases hE : E ≤ (r : Int)
      · obtain ⟨m1, hm1⟩ : ∃ m, modB (E + x) (Wn : Int) = m := ⟨_, rfl⟩
        obtain ⟨m2, hm2⟩ : ∃ m, modB (E + y) (Hn : Int) = m := ⟨_, rfl⟩
        have z1 := modB_zero Wn r x E ax m1 (by omega) x1' x2' wr1 E1 hE Hax.out hm1
        have z2 := modB_zero Hn r y E ay m2 (by omega) y1' y2' hr1 E1 hE Hay.out hm2
        have Hm1 := hidIt (fun v => mod_any (E + x) (Wn : Int) m1 hm1 (by omega) (by omega) (by omega) (by omega) v)
        have Hm2 := hidIt (fun v => mod_any (E + y) (Hn : Int) m2 hm2 (by omega) (by omega) (by omega) (by omega) v)
        clear hm1 hm2
        by_cases g1 : E = ax
        · obtain rfl := z1.2 g1
          have G1 := hidIt g1
          clear z1 g1
          by_cases g2 : E = ay
          · obtain rfl := z2.2 g2
            have G2 := hidIt g2
            clear z2 g2
            go_wp2_with (first
              | (go_at_call 8; have tg2 := tg; refine (Hm2.out _).mono ?_; rintro _ _ ⟨rfl, rfl⟩)
              | (go_at_call 8; have tg : True := trivial; refine (Hm1.out _).mono ?_; rintro _ _ ⟨rfl, rfl⟩))
            go_roundw
            case rel => exact ⟨trivial, E + 1, E, E, true, true, rfl, rfl, rfl, rfl, by go_num, by omega, by omega, hidIt ⟨(decide_eq_true (by have := G1.out; omega)).symm, (decide_eq_true (by have := G2.out; omega)).symm, fun _ => G1.out, fun _ => G2.out⟩⟩
            case measure => simp [intOf]; omega
          · have b2 : (m2 == 0) = false := by simp; exact fun h => g2 (z2.1 h)
            have G2 := hidIt g2
            clear z2 g2
            go_wp2_with (first
              | (go_at_call 8; have tg2 := tg; refine (Hm2.out _).mono ?_; rintro _ _ ⟨rfl, rfl⟩)
              | (go_at_call 8; have tg : True := trivial; refine (Hm1.out _).mono ?_; rintro _ _ ⟨rfl, rfl⟩))
            go_roundw
            case rel => exact ⟨trivial, E + 1, E, cy, true, fy, rfl, rfl, rfl, rfl, by go_num, by omega, by omega, hidIt ⟨(decide_eq_true (by have := G1.out; omega)).symm, G.out.2.1.trans (dec_iff (by have := G2.out; omega)), fun _ => G1.out, fun h => G.out.2.2.2 (by have := G2.out; omega)⟩⟩
            case measure => simp [intOf]; omega
        · have b1 : (m1 == 0) = false := by simp; exact fun h => g1 (z1.1 h)
          have G1 := hidIt g1
          clear z1 g1
          by_cases g2 : E = ay
          · obtain rfl := z2.2 g2
            have G2 := hidIt g2
            clear z2 g2
            go_wp2_with (first
              | (go_at_call 8; have tg2 := tg; refine (Hm2.out _).mono ?_; rintro _ _ ⟨rfl, rfl⟩)
              | (go_at_call 8; have tg : True := trivial; refine (Hm1.out _).mono ?_; rintro _ _ ⟨rfl, rfl⟩))
            go_roundw
            case rel => exact ⟨trivial, E + 1, cx, E, fx, true, rfl, rfl, rfl, rfl, by go_num, by omega, by omega, hidIt ⟨G.out.1.trans (dec_iff (by have := G1.out; omega)), (decide_eq_true (by have := G2.out; omega)).symm, fun h => G.out.2.2.1 (by have := G1.out; omega), fun _ => G2.out⟩⟩
            case measure => simp [intOf]; omega
          · have b2 : (m2 == 0) = false := by simp; exact fun h => g2 (z2.1 h)
            have G2 := hidIt g2
            clear z2 g2
            go_wp2_with (first
              | (go_at_call 8; have tg2 := tg; refine (Hm2.out _).mono ?_; rintro _ _ ⟨rfl, rfl⟩)
              | (go_at_call 8; have tg : True := trivial; refine (Hm1.out _).mono ?_; rintro _ _ ⟨rfl, rfl⟩))
            go_roundw
            case rel => exact ⟨trivial, E + 1, cx, cy, fx, fy, rfl, rfl, rfl, rfl, by go_num, by omega, by omega, hidIt ⟨G.out.1.trans (dec_iff (by have := G1.out; omega)), G.out.2.1.trans (dec_iff (by have := G2.out; omega)), fun h => G.out.2.2.1 (by have := G1.out; omega), fun h => G.out.2.2.2 (by have := G2.out; omega)⟩⟩
            case measure => simp [intOf]; omega
      · go_wp2
        go_meet
        case rel => exact ⟨rfl, cx, cy, fx, fy, rfl, rfl, rfl, rfl, hidIt ⟨G.out.1.trans (dec_iff (by omega)), G.out.2.1.trans (dec_iff (by omega)), fun h => G.out.2.2.1 (by omega), fun h => G.out.2.2.2 (by omega)⟩⟩
  case rest =>
  obtain ⟨rfl, cx, cy, fx, fy, rfl, rfl, rfl, rfl, G⟩ := hcut
  obtain ⟨m0, -⟩ := K6.out.net.c0
  obtain ⟨m1, -⟩ := K6.out.net.c1
  obtain ⟨m2, -⟩ := K6.out.net.c2
  obtain ⟨m6, -⟩ := K6.out.net.c6
  obtain ⟨m8, -⟩ := K6.out.net.c8
  obtain ⟨mA, -⟩ := K6.out.ann
  by_cases hin : ax ≤ (r : Int) ∧ ay ≤ (r : Int)
  · obtain ⟨g1, g2⟩ := hin
    obtain ⟨hf1, hf2, hc1, hc2⟩ := G.out
    rw [decide_eq_true g1] at hf1
    rw [decide_eq_true g2] at hf2
    obtain rfl := hc1 g1
    obtain rfl := hc2 g2
    subst hf1 hf2
    clear hc1 hc2 G
    have es := Hes.out
    have e2 := He2.out
    obtain ⟨hq0, hq1⟩ : 0 ≤ (cy + r) * (s : Int) ∧ (cy + r) * (s : Int) + s ≤ (n2 : Int) := by
      rw [← e2, ← es]
      exact idx_ok r cy r2 ay1 g2
    obtain ⟨k, hk⟩ : ∃ k : Nat, (cy + r) * (s : Int) + cx + r = k := ⟨((cy + r) * (s : Int) + cx + r).toNat, by omega⟩
    have hkn : k < n2 := by omega
    have e : t = slF z5 len5 d k := by rw [← Ht.out]; unfold slotB; rw [if_pos (by omega), es, hk]; simp
    obtain ⟨ck, -⟩ := K6.out.k3 k hkn
    rw [← e] at ck
    clear e es e2
    have i0 : (0 : Int) ≤ (k : Int) := by omega
    have i1 : (k : Int) < (n2 : Int) := by omega
    clear hkn
    by_cases h0 : t < 0
    · have hrv := Hrv.out
      have hrh := Hrh.out
      have hrn := Hrn.out
      rw [if_pos h0] at hrv hrh
      rw [decide_eq_true h0] at hrn
      subst hrv hrh
      obtain rfl : rn = false := by rw [← hrn]; rfl
      clear hrn
      go_wp2_with (first
        | (go_at_call 10; refine (equal_int8 v1.heap.size C4 nv c4 (vaF z6 len6) (by omega) _ (K6.out.vals.drewN q) (K6.out.k4.drewN q)).mono ?_; rintro _ _ ⟨rfl, q2, rfl⟩)
        | (go_at_call 9; refine (equal_int w.heap.size C3 n2 c3 (slF z5 len5 d) (by omega) _ K6.out.net.row K6.out.k3).mono ?_; rintro _ _ ⟨rfl, q, rfl⟩))
      go_ret
      exact ⟨rfl, by first | exact below_drewN K6.out.bel _ | exact below_drewN (below_drewN K6.out.bel _) _⟩
    · have hrv := Hrv.out
      have hrh := Hrh.out
      have hrn := Hrn.out
      rw [if_neg h0] at hrv hrh
      rw [decide_eq_false h0] at hrn
      obtain rfl : rn = true := by rw [← hrn]; rfl
      clear hrn
      obtain ⟨tn, htn⟩ : ∃ tn : Nat, t = tn := ⟨t.toNat, by omega⟩
      obtain ⟨m, hm⟩ : ∃ m : Nat, m = p + tn := ⟨_, rfl⟩
      rw [htn, Int.toNat_natCast, ← hm] at hrv hrh
      have pd : p + d ≤ nv := by
        have h1 := Nat.mul_le_mul (show u + 1 ≤ T by have := Int.emod_lt_of_pos a4 (show (0 : Int) < (T : Int) by omega); have := Heu.out; omega) (Nat.le_refl d)
        have h2 : T * d = nv := by have := Henv.out; exact_mod_cast this
        rw [Nat.add_mul, h2] at h1
        have := Hp.out
        omega
      have hmv : m < nv := by omega
      obtain ⟨cm, -⟩ := K6.out.k4 m hmv
      obtain ⟨gm1, gm2⟩ := Hg.out m hmv
      rw [hrv] at cm gm1 gm2 hrh
      have ep : (u : Int) * (d : Int) + t = (m : Int) := by rw [hm, htn, Hp.out]; push_cast; rfl
      have ep2 : 0 ≤ (u : Int) * (d : Int) := Int.mul_nonneg (by omega) (by omega)
      have ep3 : (u : Int) * (d : Int) ≤ 6000 := by have := Int.mul_le_mul (show (u : Int) ≤ 575 by omega) (show (d : Int) ≤ 10 by omega) (by omega) (by omega); omega
      have i2 : (0 : Int) ≤ (m : Int) := by omega
      have i3 : (m : Int) < (nv : Int) := by omega
      subst hrh
      clear hrv htn hm pd hmv
      go_wp2_with (first
        | (go_at_call 10; refine (equal_int8 v1.heap.size C4 nv c4 (vaF z6 len6) (by omega) _ (K6.out.vals.drewN q) (K6.out.k4.drewN q)).mono ?_; rintro _ _ ⟨rfl, q2, rfl⟩)
        | (go_at_call 9; refine (equal_int w.heap.size C3 n2 c3 (slF z5 len5 d) (by omega) _ K6.out.net.row K6.out.k3).mono ?_; rintro _ _ ⟨rfl, q, rfl⟩))
      go_ret
      exact ⟨rfl, by first | exact below_drewN K6.out.bel _ | exact below_drewN (below_drewN K6.out.bel _) _⟩
  · have e : t = -1 := by rw [← Ht.out]; unfold slotB; rw [if_neg (by omega)]
    have hrv := Hrv.out
    have hrh := Hrh.out
    have hrn := Hrn.out
    rw [if_pos (by omega)] at hrv hrh
    rw [decide_eq_true (by omega)] at hrn
    subst hrv hrh
    obtain rfl : rn = false := by rw [← hrn]; rfl
    clear hrn e
    obtain ⟨hf1, hf2, -, -⟩ := G.out
    clear G
    cases fx
    · clear hf1 hf2
      go_wp2_with (first
        | (go_at_call 10; refine (equal_int8 v1.heap.size C4 nv c4 (vaF z6 len6) (by omega) _ (K6.out.vals.drewN q) (K6.out.k4.drewN q)).mono ?_; rintro _ _ ⟨rfl, q2, rfl⟩)
        | (go_at_call 9; refine (equal_int w.heap.size C3 n2 c3 (slF z5 len5 d) (by omega) _ K6.out.net.row K6.out.k3).mono ?_; rintro _ _ ⟨rfl, q, rfl⟩))
      go_ret
      exact ⟨rfl, by first | exact below_drewN K6.out.bel _ | exact below_drewN (below_drewN K6.out.bel _) _⟩
    · obtain rfl : fy = false := by rw [hf2]; exact decide_eq_false (fun h => hin ⟨of_decide_eq_true hf1.symm, h⟩)
      clear hf1 hf2
      go_wp2_with (first
        | (go_at_call 10; refine (equal_int8 v1.heap.size C4 nv c4 (vaF z6 len6) (by omega) _ (K6.out.vals.drewN q) (K6.out.k4.drewN q)).mono ?_; rintro _ _ ⟨rfl, q2, rfl⟩)
        | (go_at_call 9; refine (equal_int w.heap.size C3 n2 c3 (slF z5 len5 d) (by omega) _ K6.out.net.row K6.out.k3).mono ?_; rintro _ _ ⟨rfl, q, rfl⟩))
      go_ret
      exact ⟨rfl, by first | exact below_drewN K6.out.bel _ | exact below_drewN (below_drewN K6.out.bel _) _⟩
end Go.Proofs.Ybulkdqug.K
