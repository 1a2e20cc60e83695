/-
  LawS5882CWhole: the walk of the law.
-/
import Derived.Test.YbulkdqugStages
import Derived.Deep.DeepCutAuto
import Derived.Deep.CutBlock
namespace Go.Proofs.Ybulkdqug.K
open Go.RowKit
set_option linter.unusedSimpArgs false
set_option linter.unusedVariables false
/-- A drawn coordinate on the torus. -/
def modN (x : Nat → Int) (Wn : Nat) (i : Nat) : Nat := (x i % (Wn : Int)).toNat
theorem modN_lt (x : Nat → Int) (Wn : Nat) (hW : 1 ≤ Wn) (i : Nat) : modN x Wn i < Wn := by
  unfold modN
  have h1 := Int.emod_lt_of_pos (x i) (show (0 : Int) < (Wn : Int) by omega)
  have h2 := Int.emod_nonneg (x i) (show (Wn : Int) ≠ 0 by omega)
  omega
theorem modN_tmod (x : Nat → Int) (Wn : Nat) (hW : 1 ≤ Wn) (i : Nat) (h : 0 ≤ x i) : (x i).tmod (Wn : Int) = (modN x Wn i : Int) := by
  rw [Int.tmod_eq_emod_of_nonneg h]
  unfold modN
  have h2 := Int.emod_nonneg (x i) (show (Wn : Int) ≠ 0 by omega)
  omega
theorem modN_emod (x : Nat → Int) (Wn : Nat) (hW : 1 ≤ Wn) (i : Nat) : x i % (Wn : Int) = (modN x Wn i : Int) := by
  unfold modN
  have h2 := Int.emod_nonneg (x i) (show (Wn : Int) ≠ 0 by omega)
  omega
theorem new_cell (W : World) (c : Array Value) (t : TypeId) (m o : Nat) (hm : m = W.heap.size) (v : Value) (h : c[o]? = some v) : (W.alloc (.cells c t)).drew.cell? ⟨m, o, none⟩ = some v := by
  subst hm
  exact (At.new (w := W) (t := t) h).1
theorem S1.start (w : World) (n : Nat) (W H : Int) : S1 w ((w.alloc (.cells #[.int .i64 W, .int .i64 H, .int .i64 0, .string ⟨#[]⟩, .nilIface, .slice none 0 0, .int .i64 0, .slice none 0 0, .slice none 0 0] 38)).alloc (.cells (madeCells ptZ (n * 2)) 51)) n W H (fun _ => 0) (fun _ => 0) := by
  generalize h1 : w.alloc (.cells #[.int .i64 W, .int .i64 H, .int .i64 0, .string ⟨#[]⟩, .nilIface, .slice none 0 0, .int .i64 0, .slice none 0 0, .slice none 0 0] 38) = w1
  have s1 : w1.heap.size = w.heap.size + 1 := by rw [← h1]; simp
  have b1 : Below w.heap.size w w1 := by rw [← h1]; exact (Below.refl _ _).alloc (Nat.le_refl _) _
  have a0 : At w1 w.heap.size 0 (.int .i64 W) := by rw [← h1]; exact At.new rfl
  have a1 : At w1 w.heap.size 1 (.int .i64 H) := by rw [← h1]; exact At.new rfl
  clear h1
  have k2 : ∀ o : Obj, Below w1.heap.size w1 (w1.alloc o) := fun o => (Below.refl _ _).alloc (Nat.le_refl _) _
  refine ⟨⟨a0.later (k2 _) (by omega), a1.later (k2 _) (by omega)⟩, ?_, b1.trans ((k2 _).mono (by omega)), by simp [s1]⟩
  rw [← s1]
  exact Pts.new w1 n
theorem S1.copied {w v1 : World} {n : Nat} {W H : Int} {X Y : Nat → Int} (h : S1 w v1 n W H X Y) (t : TypeId) (c : Array Value) (cs : List Value) : S1 w ((v1.alloc (.cells c t)).setCells v1.heap.size 0 cs) n W H X Y := by
  have hz := h.2.2.2
  have h' : S1 w (v1.alloc (.cells c t)) n W H X Y := h.later ((Below.refl _ _).alloc (Nat.le_refl _) _)
  obtain ⟨⟨a0, a1⟩, b, d, e⟩ := h'
  exact ⟨⟨a0.cells_other (by omega) cs, a1.cells_other (by omega) cs⟩, fun i hi => ⟨(b i hi).1.cells_other (by omega) cs, (b i hi).2.cells_other (by omega) cs⟩, below_setCells _ (by omega) cs 0 _ d, by rw [size_setCells]; exact e⟩
theorem S4.start {w v2 v3 : World} {Q n T : Nat} {W H value : Int} {X Y : Nat → Int} {f : Nat → NSt} (h : S1 w v2 n W H X Y) (hq : Pts v2 Q n X Y) (hQ : Q < v2.heap.size) (ho : OS v2 v3 w.heap.size (w.heap.size + 1) n T value f) :
    S4 w v3 Q (v2.heap.size + 1) (v2.heap.size + 1 + 1) n T W H value X Y f := by
  obtain ⟨⟨a0, a1⟩, b, d, e⟩ := h
  obtain ⟨-, o2, o3, o4, o5⟩ := ho
  exact ⟨⟨a0.later o4 (by omega), a1.later o4 (by omega)⟩, ⟨b.later o4 e, hq.later o4 hQ⟩, o2, o3, d.trans (o4.mono (by omega)), by omega, by omega, by omega, by omega⟩
set_option maxHeartbeats 1600000 in
set_option maxRecDepth 100000 in
theorem law (a0 a1 a2 : Int) (ao : Option Addr) (n cap b off : Nat) (x y : Nat → Int) (w : World) (Wn Hn : Nat) (hW : a0 + 1 = Wn) (hH : a1 + 1 = Hn) (p0 : 0 ≤ a0) (p0' : a0 ≤ 255) (p1 : 0 ≤ a1) (p1' : a1 ≤ 255) (hn : n ≤ 1048576)
    (hxy : ∀ i, 0 ≤ x i ∧ x i ≤ 255 ∧ 0 ≤ y i ∧ y i ≤ 255)
    (hidx : ∀ i : Nat, i < n → ∀ w : World, (Instr.indexAt 47 (.slice ao n cap) (.int .i64 i)).run Yba.prog w = .ok (.pointer (some ⟨b, off + i * 2, none⟩)) w)
    (hcell : ∀ i, i < n → w.cell? ⟨b, off + i * 2, none⟩ = some (.int .u8 (x i)) ∧ w.cell? ⟨b, off + i * 2 + 1, none⟩ = some (.int .u8 (y i))) (hb : 0 < n → b < w.heap.size) :
    Calls Yba.prog 4 #[.int .u8 a0, .int .u8 a1, .int .i64 a2, .slice ao n cap] w fun e w' => e = .returned (.bool true) ∧ Below w.heap.size w w' := by
  have HW := hidIt hW
  have HH := hidIt hH
  have Hxy := hidIt hxy
  have Hidx := hidIt hidx
  have Hcell := hidIt hcell
  have w1 : 1 ≤ Wn := by omega
  have w2 : Wn ≤ 256 := by omega
  have h1 : 1 ≤ Hn := by omega
  have h2 : Hn ≤ 256 := by omega
  clear hW hH hxy hidx hcell
  have hmk := make36 n (by omega)
  go_enter Yba.func4, Yba.ntmps4
  go_upto_block 0 with fail
  rw [HW.out, HH.out]
  go_cut [13, 14, 45] (fun _ _ _ w1 => Hid (S1 w w1 n Wn Hn (fun i => (modN x Wn i : Int)) (fun i => (modN y Hn i : Int))))
  case first =>
    as_aux_lemma =>
    go_wp2
    go_loopw [13, 14, 45] (fun _ _ c wr => ∃ k : Nat, c = .int .i64 k ∧ k ≤ n ∧ ∃ X Y, Hid (S1 w wr n Wn Hn X Y ∧ ∀ j, j < k → X j = (modN x Wn j : Int) ∧ Y j = (modN y Hn j : Int))) (fun _ _ c _ => n - (intOf c).toNat)
    case atStart => exact ⟨0, rfl, by omega, _, _, hidIt ⟨S1.start w n Wn Hn, fun j hj => absurd hj (by omega)⟩⟩
    case round =>
      obtain ⟨k, rfl, hk, X, Y, G⟩ := hrel
      by_cases hlt : k < n
      · obtain ⟨⟨c0, f0⟩, ⟨c1, f1⟩⟩ := G.out.1.2.1 k hlt
        have hsz := G.out.1.2.2.2
        obtain ⟨d0, d1⟩ := Hcell.out k hlt
        have e0 := bcell G.out.1.2.2.1 (hb (by omega)) d0
        have e1 := bcell G.out.1.2.2.1 (hb (by omega)) d1
        have hix := Hidx.out k hlt
        obtain ⟨q0, q1, q2, q3⟩ := Hxy.out k
        have t0 := modN_tmod x Wn w1 k q0
        have t1 := modN_tmod y Hn h1 k q2
        have t2 := modN_emod x Wn w1 k
        have t3 := modN_emod y Hn h1 k
        have t4 : IntKind.i64.wrap (x k) = x k := by rw [IntKind.wrap_i64]; omega
        have t5 : IntKind.i64.wrap (y k) = y k := by rw [IntKind.wrap_i64]; omega
        have n0 : ¬ Wn = 0 := by omega
        have n1 : ¬ Hn = 0 := by omega
        have i0 : (0 : Int) ≤ (k : Int) := by omega
        have i1 : (k : Int) < (n : Int) := by omega
        have hne0 : ¬ w.heap.size + 1 = wr.heap.size := by omega
        have hne1 : ¬ wr.heap.size = w.heap.size + 1 := by omega
        clear d0 d1
        go_wp2
        go_region_held3 (fun w' => w'.cell? ⟨wr.heap.size, 0, none⟩ = some (.int .u8 (x k)) ∧ w'.cell? ⟨wr.heap.size, 1, none⟩ = some (.int .u8 (y k))) (first | (go_keep; done) | (refine ⟨?_, ?_⟩ <;> (refine new_cell _ _ _ _ _ ?_ _ ?_ <;> first | rfl | simp))) (fail)
        go_wp2
        go_roundw
        case rel =>
          refine ⟨k + 1, by go_num, by omega, _, _, hidIt ⟨(G.out.1.put k (modN x Wn k) (modN y Hn k)).later (((Below.refl _ _).alloc (Nat.le_refl _) _).drew), fun j hj => ?_⟩⟩
          by_cases ej : j = k
          · simp [putI, ej]
          · simp only [putI, ej, if_false]; exact G.out.2 j (by omega)
        case measure => simp [intOf]; omega
      · go_wp2
        go_meet
        case rel => exact hidIt ⟨G.out.1.1, G.out.1.2.1.congr (fun i hi => (G.out.2 i (by omega)).1) (fun i hi => (G.out.2 i (by omega)).2), G.out.1.2.2⟩
  case rest =>
  have H1 := hcut
  clear hcut
  obtain ⟨v1, rfl⟩ : ∃ v1, v1 = wc := ⟨_, rfl⟩
  have hcp := fun ty => copy_pts ty (w.heap.size + 1) v1.heap.size n _ _ _ _ (v1.alloc (.cells (madeCells ptZ (n * 2)) 51)) (H1.out.2.1.later ((Below.refl _ _).alloc (Nat.le_refl _) _) H1.out.2.2.2) (Pts.new v1 n)
  have H2 := hidIt (H1.out.copied 51 (madeCells ptZ (n * 2)) (ptCells (fun i => (modN x Wn i : Int)) (fun i => (modN y Hn i : Int)) n))
  have Q2 := hidIt (Pts.copied (Pts.new v1 n) (fun i => (modN x Wn i : Int)) (fun i => (modN y Hn i : Int)))
  have hv2 : v1.heap.size < ((v1.alloc (.cells (madeCells ptZ (n * 2)) 51)).setCells v1.heap.size 0 (ptCells (fun i => (modN x Wn i : Int)) (fun i => (modN y Hn i : Int)) n)).heap.size := by rw [size_setCells]; simp
  obtain ⟨T, hT⟩ : ∃ T : Nat, (Wn : Int) * (Hn : Int) = T := ⟨Wn * Hn, by simp⟩
  have HT := hidIt hT
  clear hT H1
  generalize hv : (v1.alloc (.cells (madeCells ptZ (n * 2)) 51)).setCells v1.heap.size 0 (ptCells (fun i => (modN x Wn i : Int)) (fun i => (modN y Hn i : Int)) n) = v2 at hcp H2 Q2 hv2
  clear hv
  go_wp2_with fail
  have hz2 := H2.out.2.2.2
  refine (outcome_any w.heap.size (w.heap.size + 1) n Wn Hn a2 T (fun i => (modN x Wn i : Int)) (fun i => (modN y Hn i : Int)) HT.out (by omega) (by omega) (by omega) (by omega) (by omega) _ (by exact H2.out.1.1.1) (by exact H2.out.1.2.1) (by omega) (by exact hz2) (by exact H2.out.2.1)
    (fun i hi => by have a := modN_lt x Wn w1 i; have b := modN_lt y Hn h1 i; omega)).mono ?_
  rintro e v3 ⟨rfl, ho⟩
  have H4 := hidIt (S4.start H2.out Q2.out hv2 ho)
  clear ho hcp hmk
  obtain ⟨Q, hQ⟩ : ∃ Q, Q = v1.heap.size := ⟨_, rfl⟩
  obtain ⟨D, hD⟩ : ∃ D, D = v2.heap.size + 1 := ⟨_, rfl⟩
  obtain ⟨O, hO⟩ : ∃ O, O = v2.heap.size + 1 + 1 := ⟨_, rfl⟩
  rw [← hQ, ← hO, ← hD] at H4
  rw [← hQ, ← hO]
  clear hQ hD hO hv2 H2 Q2 hz2
  obtain ⟨⟨o0, -⟩, ⟨o1, -⟩, ⟨o2, -⟩, ⟨o3, -⟩, ⟨o4, -⟩⟩ := H4.out.2.2.1
  have hnil : ∀ W : World, (binOp .neq 60 (.slice none 0 0) (.slice none 0 0)).run Yba.prog W = .ok (.bool false) W := fun W => by kernel_rfl
  have hT := HT.out
  have hTb : (T : Int) ≤ 65536 := by
    have := Int.mul_le_mul (show (Wn : Int) ≤ 256 by omega) (show (Hn : Int) ≤ 256 by omega) (by omega) (by omega)
    omega
  have hm1 := make64 Hn (by omega)
  have hm2 := make65 Wn (by omega)
  go_upto_block 2 with fail
  clear hm1 o0 o1 o2 o3 o4 hnil hT
  go_cut [18] (fun _ v5 => ∃ R, Hid (Bad v5 v3.heap.size Hn Wn Hn R (fun _ _ => false) ∧ Below v3.heap.size v3 v5))
  case first =>
    as_aux_lemma =>
    go_wp2
    go_loopw [18] (fun c wr => ∃ k : Nat, c = .int .i64 k ∧ k ≤ Hn ∧ ∃ R, Hid (Bad wr v3.heap.size Hn Wn k R (fun _ _ => false) ∧ Below v3.heap.size v3 wr)) (fun c _ => Hn - (intOf c).toNat)
    case atStart => exact ⟨0, rfl, by omega, _, hidIt ⟨Bad.start v3 Hn Wn, (Below.refl _ _).alloc (Nat.le_refl _) _⟩⟩
    case round =>
      obtain ⟨k, rfl, hk, R, G⟩ := hrel
      by_cases hlt : k < Hn
      · obtain ⟨c0, f0⟩ := G.out.1.2.1 k (by omega) hlt
        have hsz := G.out.1.2.2.2
        have i0 : (0 : Int) ≤ (k : Int) := by omega
        have i1 : (k : Int) < (Hn : Int) := by omega
        go_wp2
        go_roundw
        case rel =>
          refine ⟨k + 1, by go_num, by omega, putN R k wr.heap.size, hidIt ⟨?_, ?_⟩⟩
          · rw [← World.setCell_alloc_past (w := wr) _ _ _ _ hsz]; exact G.out.1.row hlt
          · exact (G.out.2.setCell (Nat.le_refl _) _).alloc (by simp; omega) _
        case measure => simp [intOf]; omega
      · go_wp2
        go_meet
        case rel =>
          obtain rfl : k = Hn := by omega
          exact ⟨R, G⟩
  case rest =>
  obtain ⟨R, H5⟩ := hcut
  obtain ⟨v5, rfl⟩ : ∃ v5, v5 = wc := ⟨_, rfl⟩
  clear hm2
  go_upto_block 4 with fail
  go_cut [20, 128] (fun _ _ v6 => Hid (Bad v6 v3.heap.size Hn Wn Hn R (hit (modN x Wn) (modN y Hn) n) ∧ Below v3.heap.size v3 v6))
  case first =>
    as_aux_lemma =>
    go_wp2
    go_loopw [20, 128] (fun _ c wr => ∃ k : Nat, c = .int .i64 k ∧ k ≤ n ∧ Hid (Bad wr v3.heap.size Hn Wn Hn R (hit (modN x Wn) (modN y Hn) k) ∧ Below v3.heap.size v3 wr)) (fun _ c _ => n - (intOf c).toNat)
    case atStart => exact ⟨0, rfl, by omega, H5⟩
    case round =>
      obtain ⟨k, rfl, hk, G⟩ := hrel
      by_cases hlt : k < n
      · have G4 := hidIt (H4.out.later G.out.2)
        obtain ⟨⟨c0, -⟩, ⟨c1, -⟩⟩ := G4.out.2.1.2 k hlt
        have yl := modN_lt y Hn h1 k
        have xl := modN_lt x Wn w1 k
        obtain ⟨⟨m0, -⟩, m2, m3, m4⟩ := G.out.1.1 (modN y Hn k) yl
        obtain ⟨r0, s0⟩ := m4 (modN x Wn k) xl
        clear m4
        have hsz := G.out.1.2.2.2
        have i0 : (0 : Int) ≤ (k : Int) := by omega
        have i1 : (k : Int) < (n : Int) := by omega
        have i2 : (modN y Hn k : Int) < (Hn : Int) := by omega
        have i3 : (modN x Wn k : Int) < (Wn : Int) := by omega
        have i4 : (0 : Int) ≤ (modN y Hn k : Int) := by omega
        have i5 : (0 : Int) ≤ (modN x Wn k : Int) := by omega
        have hne0 : ¬ R (modN y Hn k) = wr.heap.size := by omega
        have hne1 : ¬ wr.heap.size = R (modN y Hn k) := by omega
        have hne2 : ¬ R (modN y Hn k) = v3.heap.size := by omega
        have hne3 : ¬ v3.heap.size = R (modN y Hn k) := by omega
        go_wp2
        go_region_held3 (fun w' => w'.cell? ⟨wr.heap.size, 0, none⟩ = some (.int .i64 (modN x Wn k)) ∧ w'.cell? ⟨wr.heap.size, 1, none⟩ = some (.int .i64 (modN y Hn k)) ∧ w'.cell? ⟨v3.heap.size, modN y Hn k, none⟩ = some (.slice (some ⟨R (modN y Hn k), 0, none⟩) Wn Wn)) (first | (go_keep; done) | (refine ⟨?_, ?_, ?_⟩ <;> first | (go_keep; done) | (refine new_cell _ _ _ _ _ ?_ _ ?_ <;> first | rfl | simp))) (fail)
        go_wp2
        go_roundw
        case rel => exact ⟨k + 1, by go_num, by omega, hidIt ⟨(G.out.1.mark (modN y Hn k) (modN x Wn k) yl xl).later (((Below.refl _ _).alloc (Nat.le_refl _) _).drew), ((G.out.2.setCell (by simp; omega) _).alloc (by simp; omega) _).drew⟩⟩
        case measure => simp [intOf]; omega
      · go_wp2
        go_meet
        case rel =>
          obtain rfl : k = n := by omega
          exact G
  case rest =>
  have H6 := hcut
  clear hcut H5
  obtain ⟨v6, rfl⟩ : ∃ v6, v6 = wc := ⟨_, rfl⟩
  go_upto_block 6 with fail
  go_cut [21, 22, 23, 24] (fun _ _ _ _ v7 => Hid (Bad v7 v3.heap.size Hn Wn Hn R (hit (modN x Wn) (modN y Hn) n) ∧ Below v3.heap.size v3 v7))
  case first =>
    as_aux_lemma =>
    go_wp2
    go_loopw [21, 22, 23, 24] (fun c1 c2 _ _ wr => ∃ m p : Nat, c1 = .int .i64 m ∧ c2 = .int .i64 p ∧ p ≤ Hn ∧ Hid (m = p * Wn) ∧ Hid (Bad wr v3.heap.size Hn Wn Hn R (hit (modN x Wn) (modN y Hn) n) ∧ Below v3.heap.size v3 wr)) (fun _ c2 _ _ _ => Hn - (intOf c2).toNat)
    case atStart => exact ⟨0, 0, rfl, rfl, by omega, hidIt (by simp), H6⟩
    case round =>
      clear H6
      obtain ⟨m0, p, rfl, rfl, hp, Hm0, G0⟩ := hrel
      by_cases hlt : p < Hn
      · obtain ⟨wo, rfl⟩ : ∃ wo, wo = wr := ⟨_, rfl⟩
        have hmT : p * Wn + Wn ≤ T := by
          have h3 := HT.out
          have h4 : (p + 1) * Wn ≤ Hn * Wn := Nat.mul_le_mul_right _ (by omega)
          rw [Nat.add_mul, Nat.one_mul, Nat.mul_comm Hn Wn] at h4
          have h5 : ((Wn * Hn : Nat) : Int) = T := by rw [← h3]; simp
          omega
        have HmT := hidIt hmT
        have hm0T : m0 + Wn ≤ T := by rw [Hm0.out]; exact hmT
        clear hmT
        go_wp2
        go_loopw [21, 23, 24] (fun c1 c3 _ wr => ∃ m q : Nat, c1 = .int .i64 m ∧ c3 = .int .i64 q ∧ q ≤ Wn ∧ Hid (m = p * Wn + q) ∧ Hid (Bad wr v3.heap.size Hn Wn Hn R (hit (modN x Wn) (modN y Hn) n) ∧ Below v3.heap.size v3 wr)) (fun _ c3 _ _ => Wn - (intOf c3).toNat)
        case atStart => exact ⟨m0, 0, rfl, rfl, by omega, hidIt (by rw [Hm0.out]; rfl), G0⟩
        case round =>
          clear G0
          obtain ⟨m, q, rfl, rfl, hq1, Hm, G⟩ := hrel
          by_cases hq : q < Wn
          · have hmT : m < T := by have := Hm.out; have := HmT.out; omega
            have G4 := hidIt (H4.out.later G.out.2)
            obtain ⟨-, ⟨o1, -⟩, -⟩ := G4.out.2.2.1
            have hnode := G4.out.2.2.2.1 m hmT
            have hO := G4.out.2.2.2.2.2.2.2.2
            have hD := G4.out.2.2.2.2.2.2.2.1
            obtain ⟨⟨g0, -⟩, g2, g3, g4⟩ := G.out.1.1 p hlt
            have r0 := (g4 q hq).1
            clear g4 G4
            have hsz := G.out.1.2.2.2
            have i0 : (0 : Int) ≤ (p : Int) := by omega
            have i1 : (p : Int) < (Hn : Int) := by omega
            have i2 : (0 : Int) ≤ (q : Int) := by omega
            have i3 : (q : Int) < (Wn : Int) := by omega
            have i4 : (0 : Int) ≤ (m : Int) := by omega
            have i5 : (m : Int) < (T : Int) := by omega
            cases hbt : hit (modN x Wn) (modN y Hn) n p q
            all_goals rw [hbt] at r0
            · -- hit: false
              by_cases hq0 : q = 0
              · by_cases hp0 : p = 0
                · have b1 : ((q : Int) == 0) = true := by simp; omega
                  have b2 : ((p : Int) == 0) = true := by simp; omega
                  have hz : q = 0 ∧ p = 0 := ⟨hq0, hp0⟩
                  have hf : fin (Wn : Int) a2 (fun i => (modN x Wn i : Int)) (fun i => (modN y Hn i : Int)) n m = ⟨q, p, ⟨#[115, 111, 117, 114, 99, 101]⟩, true, a2⟩ := by
                    rw [Hm.out, fin_eq Wn a2 (modN x Wn) (modN y Hn) (modN_lt x Wn w1) q p hq n, hbt]
                    simp [want, hz, faulty, source, honest]
                  rw [hf] at hnode
                  obtain ⟨⟨n0, -⟩, ⟨n1, -⟩, ⟨n2, -⟩, ⟨n3, -⟩, ⟨n4, -⟩, ⟨n5, -⟩⟩ := hnode
                  have hnn := neq_node (q : Int) (p : Int) ⟨#[115, 111, 117, 114, 99, 101]⟩ true a2
                  clear hf hz hq0 hp0 hbt
                  go_wp2
                  go_quiet (fail)
                  go_wp2
                  go_roundw
                  case rel => exact ⟨m + 1, q + 1, by go_num, by go_num, by omega, hidIt (by rw [Hm.out]; omega), hidIt ⟨G.out.1.later (below_drewN ((Below.refl _ _).alloc (Nat.le_refl _) _) _), below_drewN (G.out.2.alloc (by omega) _) _⟩⟩
                  case measure => simp [intOf]; omega
                · have b1 : ((q : Int) == 0) = true := by simp; omega
                  have b2 : ((p : Int) == 0) = false := by simp; omega
                  have hz : ¬ (q = 0 ∧ p = 0) := by omega
                  have hf : fin (Wn : Int) a2 (fun i => (modN x Wn i : Int)) (fun i => (modN y Hn i : Int)) n m = ⟨q, p, ⟨#[104, 111, 110, 101, 115, 116]⟩, false, 0⟩ := by
                    rw [Hm.out, fin_eq Wn a2 (modN x Wn) (modN y Hn) (modN_lt x Wn w1) q p hq n, hbt]
                    simp [want, hz, faulty, source, honest]
                  rw [hf] at hnode
                  obtain ⟨⟨n0, -⟩, ⟨n1, -⟩, ⟨n2, -⟩, ⟨n3, -⟩, ⟨n4, -⟩, ⟨n5, -⟩⟩ := hnode
                  have hnn := neq_node (q : Int) (p : Int) ⟨#[104, 111, 110, 101, 115, 116]⟩ false 0
                  clear hf hz hq0 hp0 hbt
                  go_wp2
                  go_quiet (fail)
                  go_wp2
                  go_roundw
                  case rel => exact ⟨m + 1, q + 1, by go_num, by go_num, by omega, hidIt (by rw [Hm.out]; omega), hidIt ⟨G.out.1.later (below_drewN ((Below.refl _ _).alloc (Nat.le_refl _) _) _), below_drewN (G.out.2.alloc (by omega) _) _⟩⟩
                  case measure => simp [intOf]; omega
              · have b1 : ((q : Int) == 0) = false := by simp; omega
                have hz : ¬ (q = 0 ∧ p = 0) := by omega
                have hf : fin (Wn : Int) a2 (fun i => (modN x Wn i : Int)) (fun i => (modN y Hn i : Int)) n m = ⟨q, p, ⟨#[104, 111, 110, 101, 115, 116]⟩, false, 0⟩ := by
                  rw [Hm.out, fin_eq Wn a2 (modN x Wn) (modN y Hn) (modN_lt x Wn w1) q p hq n, hbt]
                  simp [want, hz, faulty, source, honest]
                rw [hf] at hnode
                obtain ⟨⟨n0, -⟩, ⟨n1, -⟩, ⟨n2, -⟩, ⟨n3, -⟩, ⟨n4, -⟩, ⟨n5, -⟩⟩ := hnode
                have hnn := neq_node (q : Int) (p : Int) ⟨#[104, 111, 110, 101, 115, 116]⟩ false 0
                clear hf hz hq0 hbt
                go_wp2
                go_quiet (fail)
                go_wp2
                go_roundw
                case rel => exact ⟨m + 1, q + 1, by go_num, by go_num, by omega, hidIt (by rw [Hm.out]; omega), hidIt ⟨G.out.1.later (below_drewN ((Below.refl _ _).alloc (Nat.le_refl _) _) _), below_drewN (G.out.2.alloc (by omega) _) _⟩⟩
                case measure => simp [intOf]; omega
            · -- hit: true
              by_cases hq0 : q = 0
              · by_cases hp0 : p = 0
                · have b1 : ((q : Int) == 0) = true := by simp; omega
                  have b2 : ((p : Int) == 0) = true := by simp; omega
                  have hz : q = 0 ∧ p = 0 := ⟨hq0, hp0⟩
                  have hf : fin (Wn : Int) a2 (fun i => (modN x Wn i : Int)) (fun i => (modN y Hn i : Int)) n m = ⟨q, p, ⟨#[102, 97, 117, 108, 116, 121]⟩, true, a2⟩ := by
                    rw [Hm.out, fin_eq Wn a2 (modN x Wn) (modN y Hn) (modN_lt x Wn w1) q p hq n, hbt]
                    simp [want, hz, faulty, source, honest]
                  rw [hf] at hnode
                  obtain ⟨⟨n0, -⟩, ⟨n1, -⟩, ⟨n2, -⟩, ⟨n3, -⟩, ⟨n4, -⟩, ⟨n5, -⟩⟩ := hnode
                  have hnn := neq_node (q : Int) (p : Int) ⟨#[102, 97, 117, 108, 116, 121]⟩ true a2
                  clear hf hz hq0 hp0 hbt
                  go_wp2
                  go_quiet (fail)
                  go_wp2
                  go_roundw
                  case rel => exact ⟨m + 1, q + 1, by go_num, by go_num, by omega, hidIt (by rw [Hm.out]; omega), hidIt ⟨G.out.1.later (below_drewN ((Below.refl _ _).alloc (Nat.le_refl _) _) _), below_drewN (G.out.2.alloc (by omega) _) _⟩⟩
                  case measure => simp [intOf]; omega
                · have b1 : ((q : Int) == 0) = true := by simp; omega
                  have b2 : ((p : Int) == 0) = false := by simp; omega
                  have hz : ¬ (q = 0 ∧ p = 0) := by omega
                  have hf : fin (Wn : Int) a2 (fun i => (modN x Wn i : Int)) (fun i => (modN y Hn i : Int)) n m = ⟨q, p, ⟨#[102, 97, 117, 108, 116, 121]⟩, false, 0⟩ := by
                    rw [Hm.out, fin_eq Wn a2 (modN x Wn) (modN y Hn) (modN_lt x Wn w1) q p hq n, hbt]
                    simp [want, hz, faulty, source, honest]
                  rw [hf] at hnode
                  obtain ⟨⟨n0, -⟩, ⟨n1, -⟩, ⟨n2, -⟩, ⟨n3, -⟩, ⟨n4, -⟩, ⟨n5, -⟩⟩ := hnode
                  have hnn := neq_node (q : Int) (p : Int) ⟨#[102, 97, 117, 108, 116, 121]⟩ false 0
                  clear hf hz hq0 hp0 hbt
                  go_wp2
                  go_quiet (fail)
                  go_wp2
                  go_roundw
                  case rel => exact ⟨m + 1, q + 1, by go_num, by go_num, by omega, hidIt (by rw [Hm.out]; omega), hidIt ⟨G.out.1.later (below_drewN ((Below.refl _ _).alloc (Nat.le_refl _) _) _), below_drewN (G.out.2.alloc (by omega) _) _⟩⟩
                  case measure => simp [intOf]; omega
              · have b1 : ((q : Int) == 0) = false := by simp; omega
                have hz : ¬ (q = 0 ∧ p = 0) := by omega
                have hf : fin (Wn : Int) a2 (fun i => (modN x Wn i : Int)) (fun i => (modN y Hn i : Int)) n m = ⟨q, p, ⟨#[102, 97, 117, 108, 116, 121]⟩, false, 0⟩ := by
                  rw [Hm.out, fin_eq Wn a2 (modN x Wn) (modN y Hn) (modN_lt x Wn w1) q p hq n, hbt]
                  simp [want, hz, faulty, source, honest]
                rw [hf] at hnode
                obtain ⟨⟨n0, -⟩, ⟨n1, -⟩, ⟨n2, -⟩, ⟨n3, -⟩, ⟨n4, -⟩, ⟨n5, -⟩⟩ := hnode
                have hnn := neq_node (q : Int) (p : Int) ⟨#[102, 97, 117, 108, 116, 121]⟩ false 0
                clear hf hz hq0 hbt
                go_wp2
                go_quiet (fail)
                go_wp2
                go_roundw
                case rel => exact ⟨m + 1, q + 1, by go_num, by go_num, by omega, hidIt (by rw [Hm.out]; omega), hidIt ⟨G.out.1.later (below_drewN ((Below.refl _ _).alloc (Nat.le_refl _) _) _), below_drewN (G.out.2.alloc (by omega) _) _⟩⟩
                case measure => simp [intOf]; omega
          · go_wp2
            go_roundw
            case rel => exact ⟨m, p + 1, rfl, by go_num, by omega, hidIt (by rw [Hm.out, Nat.add_mul, Nat.one_mul]; omega), G⟩
            case measure => simp [intOf]; omega
      · go_wp2
        go_meet
        case rel => exact G0
  case rest =>
  have H7 := hcut
  clear hcut H6
  obtain ⟨v7, rfl⟩ : ∃ v7, v7 = wc := ⟨_, rfl⟩
  have H8 := hidIt (H4.out.later H7.out.2)
  obtain ⟨⟨s0, -⟩, ⟨s1, -⟩⟩ := H8.out.1
  clear H7 H4
  go_wp2_with fail
  refine (equal_pts (w.heap.size + 1) Q n _ _ (by omega) _ (by exact H8.out.2.1.1) (by exact H8.out.2.1.2)).mono ?_
  rintro e v8 ⟨rfl, q, rfl⟩
  go_wp2
  go_ret
  exact ⟨rfl, below_drewN H8.out.2.2.2.2.1 q⟩
end Go.Proofs.Ybulkdqug.K
