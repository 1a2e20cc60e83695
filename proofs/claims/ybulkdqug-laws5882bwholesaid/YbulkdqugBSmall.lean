/-
  The small callees of LawS5882BWhole: zzs5882bmod, squareSide, slotAt's closure, of, slices.Equal, slices.Clone.
-/
import Derived.Test.YbulkdqugSmall
import Derived.Lib.SliceRun
namespace Go.Proofs.Ybulkdqug.K
open Go.RowKit
set_option linter.unusedVariables false
/-- 'zzs5882bmod' over the numbers that it is handed. -/
def modB (d s : Int) : Int := if d < 0 then d + s else if d < s then d else d - s
set_option maxRecDepth 100000 in
theorem mod_any (d s v : Int) (hv : modB d s = v) (hs : 1 ≤ s) (hs2 : s ≤ 64) (h1 : -s < d) (h2 : d < 2 * s) (w : World) :
    Calls Yba.prog 8 #[.int .i64 d, .int .i64 s] w fun e w' => e = .returned (.int .i64 v) ∧ w' = w := by
  have hne : ¬ s = 0 := by omega
  unfold modB at hv
  by_cases c : d < 0
  · rw [if_pos c] at hv
    have e1 : d.tmod s = d := by
      have h := Int.tmod_eq_of_lt (a := -d) (b := s) (by omega) (by omega)
      rw [Int.neg_tmod] at h
      omega
    subst hv
    go_enter Yba.func8, Yba.ntmps8
    go_wp2
    go_ret
    exact ⟨rfl, rfl⟩
  · rw [if_neg c] at hv
    have e1 : d.tmod s = v := by
      by_cases c2 : d < s
      · rw [if_pos c2] at hv
        rw [Int.tmod_eq_of_lt (by omega) c2, hv]
      · rw [if_neg c2] at hv
        have h := Int.sub_emod_right d s
        rw [Int.emod_eq_of_lt (by omega) (by omega)] at h
        rw [Int.tmod_eq_emod_of_nonneg (by omega), ← h, hv]
    have h3 : 0 ≤ v := by rw [← hv]; split <;> omega
    go_enter Yba.func8, Yba.ntmps8
    go_wp2
    go_ret
    exact ⟨rfl, rfl⟩
set_option maxRecDepth 100000 in
theorem side_any (r : Int) (hr : 0 ≤ r) (hr2 : r ≤ 2) (w : World) :
    Calls Yba.prog 20 #[.int .i64 r] w fun e w' => e = .returned (.int .i64 (2 * r + 1)) ∧ w' = w := by
  go_enter Yba.func20, Yba.ntmps20
  go_wp2
  go_ret
  exact ⟨rfl, rfl⟩
/-- slotAt's closure. -/
def wrapB (d s r : Int) : Int := if r < d then d - s else if d < -r then d + s else d
set_option maxRecDepth 100000 in
theorem wrap_any (N B : Nat) (d s r v : Int) (hv : wrapB d s r = v) (hr : 0 ≤ r) (hr2 : r ≤ 2) (hs : 1 ≤ s) (hs2 : s ≤ 64) (h1 : -64 ≤ d) (h2 : d ≤ 64) (w : World) (cB : w.cell? ⟨B, 0, none⟩ = some (.pointer (some ⟨N, 0, none⟩))) (c2 : w.cell? ⟨N, 2, none⟩ = some (.int .i64 r)) :
    Calls Yba.prog 19 #[.int .i64 d, .int .i64 s, .pointer (some ⟨B, 0, none⟩)] w fun e w' => e = .returned (.int .i64 v) ∧ w' = w := by
  unfold wrapB at hv
  by_cases c : r < d
  · rw [if_pos c] at hv
    subst hv
    go_enter Yba.func19, Yba.ntmps19
    go_wp2
    go_ret
    exact ⟨rfl, rfl⟩
  · rw [if_neg c] at hv
    by_cases c' : d < -r
    · rw [if_pos c'] at hv
      subst hv
      go_enter Yba.func19, Yba.ntmps19
      go_wp2
      go_ret
      exact ⟨rfl, rfl⟩
    · rw [if_neg c'] at hv
      subst hv
      go_enter Yba.func19, Yba.ntmps19
      go_wp2
      go_ret
      exact ⟨rfl, rfl⟩
/-- Numbers in a row, from offset 0 of block B. -/
def Row (k : IntKind) (w : World) (B n : Nat) (f : Nat → Int) : Prop := ∀ i, i < n → At w B i (.int k (f i))
set_option maxRecDepth 100000 in
set_option maxHeartbeats 1000000 in
theorem equal_int (P K n c : Nat) (f : Nat → Int) (hn : n ≤ 2000000) (w : World) (h1 : Row .i64 w P n f) (h2 : Row .i64 w K n f) :
    Calls Yba.prog 9 #[.slice (some ⟨P, 0, none⟩) n n, .slice (some ⟨K, 0, none⟩) n c] w fun e w' => e = .returned (.bool true) ∧ ∃ q, w' = w.drewN q := by
  have H1 := hidIt h1
  have H2 := hidIt h2
  clear h1 h2
  go_enter Yba.func9, Yba.ntmps9
  go_wp2
  go_loopw [5, 13] (fun _ x wr => ∃ k : Nat, x = .int .i64 k ∧ k ≤ n ∧ ∃ q, wr = w.drewN q) (fun _ x _ => n - (intOf x).toNat)
  case atStart => exact ⟨0, rfl, by omega, 0, rfl⟩
  case round =>
    obtain ⟨k, rfl, hk, q, rfl⟩ := hrel
    by_cases hlt : k < n
    · obtain ⟨a0, -⟩ := H1.out k hlt
      obtain ⟨b0, -⟩ := H2.out k hlt
      have i0 : (0 : Int) ≤ (k : Int) := by omega
      have i1 : (k : Int) < (n : Int) := by omega
      go_wp2
      go_quiet (fail)
      go_wp2
      go_roundw
      case rel => exact ⟨k + 1, by go_num, by omega, q + nq, by simp [World.drewN]⟩
      case measure => simp [intOf]; omega
    · go_wp2
      go_ret
      exact ⟨rfl, q, rfl⟩
set_option maxRecDepth 100000 in
set_option maxHeartbeats 1000000 in
theorem equal_int8 (P K n c : Nat) (f : Nat → Int) (hn : n ≤ 2000000) (w : World) (h1 : Row .i8 w P n f) (h2 : Row .i8 w K n f) :
    Calls Yba.prog 10 #[.slice (some ⟨P, 0, none⟩) n n, .slice (some ⟨K, 0, none⟩) n c] w fun e w' => e = .returned (.bool true) ∧ ∃ q, w' = w.drewN q := by
  have H1 := hidIt h1
  have H2 := hidIt h2
  clear h1 h2
  go_enter Yba.func10, Yba.ntmps10
  go_wp2
  go_loopw [5, 13] (fun _ x wr => ∃ k : Nat, x = .int .i64 k ∧ k ≤ n ∧ ∃ q, wr = w.drewN q) (fun _ x _ => n - (intOf x).toNat)
  case atStart => exact ⟨0, rfl, by omega, 0, rfl⟩
  case round =>
    obtain ⟨k, rfl, hk, q, rfl⟩ := hrel
    by_cases hlt : k < n
    · obtain ⟨a0, -⟩ := H1.out k hlt
      obtain ⟨b0, -⟩ := H2.out k hlt
      have i0 : (0 : Int) ≤ (k : Int) := by omega
      have i1 : (k : Int) < (n : Int) := by omega
      go_wp2
      go_quiet (fail)
      go_wp2
      go_roundw
      case rel => exact ⟨k + 1, by go_num, by omega, q + nq, by simp [World.drewN]⟩
      case measure => simp [intOf]; omega
    · go_wp2
      go_ret
      exact ⟨rfl, q, rfl⟩
/-! ### make, append, Clone -/
theorem info3 : (Yba.prog.info? 3).map (fun i => (i.zero, i.size, i.bytes)) = some (some (.int .i64 0), 1, 8) := by kernel_rfl
theorem info25 : (Yba.prog.info? 25).map (fun i => (i.zero, i.size, i.bytes)) = some (some (.int .i8 0), 1, 1) := by kernel_rfl
/-- What a clone is: a new array, the same numbers. -/
def Cloned (k : IntKind) (w w' : World) (n : Nat) (f : Nat → Int) (v : Value) : Prop :=
  ∃ G c, v = .slice (some ⟨G, 0, none⟩) n c ∧ w.heap.size ≤ G ∧ Row k w' G n f ∧ Below w.heap.size w w'
def rowCells (k : IntKind) (n : Nat) (f : Nat → Int) : List Value := (List.range n).map fun i => (Value.int k (f i))
theorem rowCells_one (k : IntKind) (n : Nat) (f : Nat → Int) : ∀ u ∈ rowCells k n f, u.oneCell' = true := by
  intro u hu
  simp only [rowCells, List.mem_map] at hu
  obtain ⟨i, -, rfl⟩ := hu
  rfl
theorem news_ok (k : IntKind) (B n : Nat) (f : Nat → Int) (w : World) (h : Row k w B n f) (o : Obj) : ∀ j v, (rowCells k n f)[j]? = some v → (w.alloc o).cell? ((⟨B, 0, none⟩ : Addr).add j) = some v := by
  intro j v hv
  have hj : j < n := by
    by_cases hj : j < n
    · exact hj
    · rw [List.getElem?_eq_none (by simp [rowCells]; omega)] at hv; cases hv
  simp [rowCells, hj] at hv
  subst hv
  have hc := (h j hj).1
  have hl := (h j hj).lt
  rw [show (⟨B, 0, none⟩ : Addr).add j = ⟨B, j, none⟩ from by unfold Addr.add; split <;> simp_all]
  exact (((Below.refl w.heap.size w).alloc (Nat.le_refl _) o).cell (p := ⟨B, j, none⟩) hl).trans hc
theorem cloned_of {k : IntKind} {e : TypeId} {w w1 : World} {o : Obj} {n : Nat} {f : Nat → Int} {v : Value} {g0 : Nat} (h0 : 0 < n) (hown : w1.ownsRow w.heap.size e 1 v (0 + n) ([] ++ rowCells k n f)) (hg : (w.alloc o).grownBy w1 (Value.slice (some ⟨w.heap.size, 0, none⟩) 0 g0).ownBlock) : Cloned k w w1 n f v := by
  rcases hown.2 with ⟨_, h⟩ | ⟨g, cap, cur, rfl, hb, hgg, hnc, hcm, hcs, htake⟩
  · omega
  · simp only [Nat.zero_add, List.nil_append, Nat.mul_one] at *
    refine ⟨g, cap, rfl, hb, fun i hi => ⟨?_, ?_⟩, ((Below.refl _ _).alloc (Nat.le_refl _) o).grown hg (by simp) (by intro q hq; simp [Value.ownBlock] at hq; omega)⟩
    · have h1 : cur[i]? = some (.int k (f i)) := by
        rw [← Array.getElem?_toList]
        have h2 := congrArg (fun l => l[i]?) htake
        simp only [List.getElem?_take, hi, if_true] at h2
        rw [h2]
        simp [rowCells, hi]
      simp [World.cell?, hgg, h1]
    · simp [World.frozen?, hgg]
set_option maxRecDepth 100000 in
theorem clone_int (B n c : Nat) (f : Nat → Int) (h0 : 0 < n) (hn : n ≤ 10000) (w : World) (h : Row .i64 w B n f) :
    Calls Yba.prog 5 #[.slice (some ⟨B, 0, none⟩) n c] w fun e w' => ∃ v, e = .returned v ∧ Cloned .i64 w w' n f v := by
  have he : ∀ W : World, (binOp .eql 24 (.slice (some ⟨B, 0, none⟩) n c) (.slice none 0 0)).run Yba.prog W = .ok (.bool false) W := fun W => Lib.run_eql_slice_nil W 24 3 _ n c 0 0 Yba.underlying24
  obtain ⟨i, hi, hzz⟩ := Option.map_eq_some_iff.1 info3
  simp only [Prod.mk.injEq] at hzz
  obtain ⟨hz, hs, hb⟩ := hzz
  have hown := World.ownsRow_made (base := w.heap.size) (e := 3) (size := 1) w #[] 0 (Nat.le_refl _) (by simp [maxLen]) (by simp)
  have hnews := news_ok .i64 B n f w h (.cells #[] 3)
  have H := hidIt h
  clear h
  go_enter Yba.func5, Yba.ntmps5
  go_wp2_with (at_builtin; refine wpList_append_own _ rfl _ _ 24 rfl w.heap.size 3 i (.int .i64 0) 1 8 Yba.underlying24 hi hz hs hb rfl (by decide) _ _ _ rfl hown ⟨B, 0, none⟩ n c (rowCells .i64 n f) rfl (by simp [rowCells]) hnews (rowCells_one .i64 n f) (by simp only [maxLen]; omega) (by omega) (by simp) ?_; intro v1 w1 hown1 hgrow1 hnil)
  go_ret
  exact ⟨_, rfl, cloned_of h0 hown1 hgrow1⟩
set_option maxRecDepth 100000 in
theorem clone_int8 (B n c : Nat) (f : Nat → Int) (h0 : 0 < n) (hn : n ≤ 10000) (w : World) (h : Row .i8 w B n f) :
    Calls Yba.prog 6 #[.slice (some ⟨B, 0, none⟩) n c] w fun e w' => ∃ v, e = .returned v ∧ Cloned .i8 w w' n f v := by
  have he : ∀ W : World, (binOp .eql 23 (.slice (some ⟨B, 0, none⟩) n c) (.slice none 0 0)).run Yba.prog W = .ok (.bool false) W := fun W => Lib.run_eql_slice_nil W 23 25 _ n c 0 0 Yba.underlying23
  obtain ⟨i, hi, hzz⟩ := Option.map_eq_some_iff.1 info25
  simp only [Prod.mk.injEq] at hzz
  obtain ⟨hz, hs, hb⟩ := hzz
  have hown := World.ownsRow_made (base := w.heap.size) (e := 25) (size := 1) w #[] 0 (Nat.le_refl _) (by simp [maxLen]) (by simp)
  have hnews := news_ok .i8 B n f w h (.cells #[] 25)
  have H := hidIt h
  clear h
  go_enter Yba.func6, Yba.ntmps6
  go_wp2_with (at_builtin; refine wpList_append_own _ rfl _ _ 23 rfl w.heap.size 25 i (.int .i8 0) 1 1 Yba.underlying23 hi hz hs hb rfl (by decide) _ _ _ rfl hown ⟨B, 0, none⟩ n c (rowCells .i8 n f) rfl (by simp [rowCells]) hnews (rowCells_one .i8 n f) (by simp only [maxLen]; omega) (by omega) (by simp) ?_; intro v1 w1 hown1 hgrow1 hnil)
  go_ret
  exact ⟨_, rfl, cloned_of h0 hown1 hgrow1⟩
/-! ### 'of' -/
theorem slice3_run (V n a b : Nat) (hab : a < b) (hb : b ≤ n) (W : World) : (Instr.slice 23 (.slice (some ⟨V, 0, none⟩) n n) (some (.int .i64 (a : Int))) (some (.int .i64 (b : Int))) (some (.int .i64 (b : Int)))).run Yba.prog W =
    .ok (.slice (some ⟨V, a, none⟩) (b - a) (b - a)) W := by
  have h1 : (a : Int) ≤ (b : Int) := by omega
  have h2 : (b : Int) ≤ (n : Int) := by omega
  have h3 : ¬ b - a = 0 := by omega
  simp [go_sem, h1, h2]
  omega
end Go.Proofs.Ybulkdqug.K
