/-
  LawS5880BWhole: the row, and the tied card. The frame after the guide's MapyProofs.lean, Tab6Proofs.lean (a listed table that is named) and the shell for laws over slices.
-/
import Derived.Test.YbulkdqteDoorRows
import Derived.Test.YbulkdqteDoorTie
import Derived.Test.YbulkdqteDoorCards
import Derived.Test.YbulkdqteDoorLawBuy
import Derived.Test.YbulkdqteDoorLawSell
import Derived.WalkKit
import Derived.ProofKit
import Derived.OpenShut
import Derived.ShutString
import Derived.ChangeOld
import Derived.Below
import Derived.LaidMore
import Derived.Stop.Joined
import Derived.Lib.LaidTab
import Derived.ChangeVars
import Derived.SevenTiedAt
namespace Go.Proofs.YbulkdqteDoor
open Go.ChangeShapes Go.WideShapes Go.ChangeAt Go.RowKit
set_option linter.unusedVariables false

theorem own : ownKnob Ybad.prog.godebug = none := by kernel_rfl
theorem laidOut : laidOutB Ybad.prog = true := by kernel_rfl
theorem gPow : Ybad.prog.globalNamed "example.com/crossbook/crossbook/amount.powers" = some 0 := by kernel_rfl
theorem tPow : (Ybad.prog.globals[0]?).map (·.type) = some 56 := by kernel_rfl
theorem cells25 : Ybad.prog.cellsOf 25 = 1 := by kernel_rfl
theorem cells56 : Ybad.prog.cellsOf 56 = 19 := by kernel_rfl
def tens : List Int := [1, 10, 100, 1000, 10000, 100000, 1000000, 10000000, 100000000, 1000000000, 10000000000, 100000000000, 1000000000000, 10000000000000, 100000000000000, 1000000000000000, 10000000000000000, 100000000000000000, 1000000000000000000]
abbrev laid1 : List (String × DataW Unit) := [("example.com/crossbook/crossbook/amount.powers", Rows.laid_example_com_crossbook_crossbook_amount_powers)]
abbrev tabV : Array Value := (tens.map fun z => Value.int .u64 z).toArray

/-- The door's own heap meets the condition. -/
theorem door_met (os : Os) (args : Array Value) : laidMetH Ybad.prog laid1 ((World.doorLaid Ybad.prog 400 os).forCall (fun _ _ => 0) ⟨#[], args, []⟩).memory :=
  laidMetH_of_parts3 (fuel := 8) (laidMet_of_run' 8 (by kernel_rfl) (by kernel_rfl)) (by kernel_rfl) (by kernel_rfl)

theorem of_laid {W : World} (h : laidMetH Ybad.prog laid1 W) : W.var? Ybad.prog "example.com/crossbook/crossbook/amount.powers" = some tabV := by
  rw [MakeChecks.laidMetH_plain _ _ _ (by kernel_rfl)] at h
  exact Lib.tabIs_of_head (k := .u64) (zs := tens) (rest := []) gPow tPow Ybad.underlying56 Ybad.underlying25 cells25 cells56 h

/-- WHAT THE WALK IS TOLD OF A SLICE OF INTEGERS THAT CAME IN. -/
def IsRow (k : IntKind) (w : World) (a : Option Addr) (len cap : Nat) (zs : List Int) : Prop :=
  (a = none ∧ len = 0 ∧ cap = 0 ∧ zs = []) ∨
  ∃ x, a = some x ∧ len ≤ cap ∧ cap ≤ maxLen ∧ zs.length = cap ∧ (∀ i, i < zs.length → w.cell? (x.add i) = some (.int k (zs.getD i 0))) ∧ ∀ n ∈ zs, (Lit.int k n).wf = true

theorem walk_of (a0 : Int) (a1 : Int) (ao : Option Addr) (len cap b off : Nat) (z : Nat → Int) (a3 : Int) (a4 : Int) (w : World) (w0 : (Lit.int .u8 a0).wf = true) (w1 : (Lit.int .u8 a1).wf = true) (w3 : (Lit.int .u16 a3).wf = true) (w4 : (Lit.int .u16 a4).wf = true)
    (hlen : len ≤ 9223372036854775807)
    (hz : ∀ i, i < len → 0 ≤ z i ∧ z i ≤ 255) (hidx : ∀ i : Nat, i < len → ∀ w : World, (Instr.indexAt 22 (.slice ao len cap) (.int .i64 i)).run Ybad.prog w = .ok (.pointer (some ⟨b, off + i, none⟩)) w)
    (hcell : ∀ i, i < len → w.cell? ⟨b, off + i, none⟩ = some (.int .u8 (z i))) (hb : 0 < len → b < w.heap.size) (hB : 0 < w.heap.size) (hp : w.cell? ⟨0, 0, none⟩ = some (.int .u64 1)) :
    Calls Ybad.prog 3 #[.int .u8 a0, .int .u8 a1, .slice ao len cap, .int .u16 a3, .int .u16 a4] w fun e w' => e = .returned (.bool true) ∧ Below w.heap.size w w' := by
  obtain ⟨p0, p0'⟩ := bounds_u8 w0
  obtain ⟨p1, p1'⟩ := bounds_u8 w1
  obtain ⟨p3, p3'⟩ := bounds_u16 w3
  obtain ⟨p4, p4'⟩ := bounds_u16 w4
  cases h : (a0 % 3 == 0)
  · exact B.law_sell a0 a1 a3 a4 ao len cap b off z w (a0 % 3) rfl h p0 p0' p1 p1' p3 p3' p4 p4' hlen hz hidx hcell hb hB hp
  · exact B.law_buy a0 a1 a3 a4 ao len cap b off z w (a0 % 3) rfl h p0 p0' p1 p1' p3 p3' p4 p4' hlen hz hidx hcell hb hB hp

theorem idx_run (b off len cap i : Nat) (hi : i < len) (w : World) : (Instr.indexAt 22 (.slice (some ⟨b, off, none⟩) len cap) (.int .i64 i)).run Ybad.prog w = .ok (.pointer (some ⟨b, off + i, none⟩)) w := by
  have h1 : (i : Int) < (len : Int) := by omega
  simp [go_sem, h1]

theorem walk (a0 : Int) (a1 : Int) (a2 : Option Addr) (len cap : Nat) (zs : List Int) (a3 : Int) (a4 : Int) (w : World) (w0 : (Lit.int .u8 a0).wf = true) (w1 : (Lit.int .u8 a1).wf = true) (w2 : IsRow .u8 w a2 len cap zs) (w3 : (Lit.int .u16 a3).wf = true) (w4 : (Lit.int .u16 a4).wf = true)
    (hv : w.var? Ybad.prog "example.com/crossbook/crossbook/amount.powers" = some tabV) :
    Calls Ybad.prog 3 #[.int .u8 a0, .int .u8 a1, .slice a2 len cap, .int .u16 a3, .int .u16 a4] w fun e w' => e = .returned (.bool true) ∧ Below w.heap.size w w' := by
  have hp : w.cell? ⟨0, 0, none⟩ = some (.int .u64 1) := World.var?_cell gPow hv 0
  have hB : 0 < w.heap.size := World.block_lt_of_cell? _ _ hp
  rcases w2 with ⟨rfl, rfl, rfl, rfl⟩ | ⟨x, rfl, hlc, hm, hzl, hcell, hwf⟩
  · exact walk_of a0 a1 none 0 0 0 0 (fun _ => 0) a3 a4 w w0 w1 w3 w4 (by omega) (fun i h => absurd h (by omega)) (fun i h => absurd h (by omega)) (fun i h => absurd h (by omega)) (fun h => absurd h (by omega)) hB hp
  · unfold maxLen at hm
    by_cases h0 : len = 0
    · subst h0
      exact walk_of a0 a1 (some x) 0 cap 0 0 (fun _ => 0) a3 a4 w w0 w1 w3 w4 (by omega) (fun i h => absurd h (by omega)) (fun i h => absurd h (by omega)) (fun i h => absurd h (by omega)) (fun h => absurd h (by omega)) hB hp
    · obtain ⟨b, off, spot⟩ := x
      have hspot : spot = none := by simpa [Addr.add] using World.cell?_spot (hcell 0 (by omega))
      subst hspot
      have hc' : ∀ i, i < len → w.cell? ⟨b, off + i, none⟩ = some (.int .u8 (zs.getD i 0)) := fun i hi => by rw [← add_plain]; exact hcell i (by omega)
      refine walk_of a0 a1 (some ⟨b, off, none⟩) len cap b off (fun i => zs.getD i 0) a3 a4 w w0 w1 w3 w4 (by omega) (fun i hi => ?_) (fun i hi w => idx_run b off len cap i hi w) hc' (fun h => World.block_lt_of_cell? _ _ (hc' 0 h)) hB hp
      have hwi : (Lit.int .u8 (zs.getD i 0)).wf = true := hwf _ (by
        have hil : i < zs.length := by omega
        simp [List.getD, hil])
      exact bounds_u8 hwi

theorem reads_table {H : Type} (enc : TypeId × Value → H) (W : World) (sp : Nat → Bool) : DataW.trod enc Ybad.prog W 0 sp true 3 56 tabV.toList = some (Rows.laid_example_com_crossbook_crossbook_amount_powers, []) := by kernel_rfl

set_option maxRecDepth 100000 in
theorem lifted (os : Os) (started : os.Started) (H : Type) (enc : TypeId × Value → H) :
    ReturnsInHanded {} Ybad.checked os 3 .any (fun w args => (Rows.lawS5880BWholeSpec.pre enc Ybad.prog Ybad.f3 [] false w args ∧ laidMetH Ybad.prog laid1 w) ∧ sizedMet enc Ybad.prog Ybad.f3 (OpenSpec.ofChange Rows.lawS5880BWholeSpec) false w args)
      (Rows.lawS5880BWholeSpec.post enc Ybad.prog Ybad.f3 false true false false) := by
  refine returnsInHanded_of_change_and (C := Ybad.checked) (X := fun w _ => laidMetH Ybad.prog laid1 w) (fun _ _ _ hh h => h.of_heap hh) own started (by kernel_rfl) Ybad.func3
    (ChangeSpec.witness_shaped (enc := enc) (C := Ybad.checked) (os := os) (X := fun w _ => laidMetH Ybad.prog laid1 w) false (World.doorLaid Ybad.prog 400 os) #[.int .u8 0, .int .u8 0, .slice none 0 0, .int .u16 0, .int .u16 0] 8 rfl (World.shaped_of_RefB (by kernel_rfl) (by kernel_rfl)) (by kernel_rfl) (by kernel_rfl) (by kernel_rfl) (door_met os _)) ?_
  intro W base args ds gs before hval0 hW _ _ hL _
  have hval : ∀ (j : Nat) t v, Ybad.f3.params[j]? = some t → args[j]? = some v → Value.okWide Ybad.prog W .any base t v := hval0
  have hW' := hW
  obtain ⟨p, q, hA0, hV0, rfl, hfz, hnd⟩ := hW
  have hA : DataW.TrodAll enc Ybad.prog W 0 (fun _ => true) true Ybad.f3.params.toList args.toList ds p := hA0
  have hV : DataW.TrodVars enc Ybad.prog W (fun _ => true) ["example.com/crossbook/crossbook/amount.powers"] gs q := hV0
  rw [Ybad.params3] at hA hval
  obtain ⟨v0, vs0, d0, ds0, p0, q0, hargs, rfl, rfl, h0, r0⟩ := trodAll_cons hA
  obtain ⟨v1, vs1, d1, ds1, p1, q1, rfl, rfl, rfl, h1, r1⟩ := trodAll_cons r0
  obtain ⟨v2, vs2, d2, ds2, p2, q2, rfl, rfl, rfl, h2, r2⟩ := trodAll_cons r1
  obtain ⟨v3, vs3, d3, ds3, p3, q3, rfl, rfl, rfl, h3, r3⟩ := trodAll_cons r2
  obtain ⟨v4, vs4, d4, ds4, p4, q4, rfl, rfl, rfl, h4, r4⟩ := trodAll_cons r3
  obtain ⟨rfl, rfl, rfl⟩ := trodAll_nil r4
  obtain rfl : args = #[v0, v1, v2, v3, v4] := by cases args; simp_all
  obtain ⟨g, t, cs, fuelv, d, pv, rfl, hg, ht, hvar, hd, rfl⟩ := trodVars_one hV
  obtain rfl := Option.some.inj (gPow.symm.trans hg)
  obtain rfl := Option.some.inj (tPow.symm.trans ht)
  obtain rfl : cs = tabV := Option.some.inj (hvar.symm.trans (of_laid hL))
  obtain ⟨rfl, rfl⟩ := DataW.Trod.unique (v := .agg tabV) ⟨fuelv, hd⟩ ⟨3, reads_table enc W _⟩
  obtain ⟨a0, rfl, rfl, rfl, w0⟩ := open_int Ybad.underlying5 (hval 0 5 v0 rfl rfl) h0
  obtain ⟨a1, rfl, rfl, rfl, w1⟩ := open_int Ybad.underlying5 (hval 1 5 v1 rfl rfl) h1
  obtain ⟨a2, len2, cap2, rfl⟩ := okWide_slice Ybad.underlying22 (hval 2 22 v2 rfl rfl)
  have k2 := h2
  have lt2 : ∀ x ∈ p2, x.block < W.heap.size := by obtain ⟨m, hm⟩ := k2; exact DataW.trod_lt m _ _ _ hm
  obtain ⟨z2, w2⟩ : ∃ zs, IsRow .u8 W a2 len2 cap2 zs := by
    obtain ⟨fuel, hf⟩ := h2
    rcases open_ints Ybad.underlying22 Ybad.underlying5 (by kernel_rfl) hf with ⟨hcs, _⟩ | ⟨x, l, c, zs, hcs, _, hl, hm, hz, _, hcell, hwz⟩
    · simp [Value.cells] at hcs
      obtain ⟨rfl, rfl, rfl⟩ := hcs
      exact ⟨[], .inl ⟨rfl, rfl, rfl, rfl⟩⟩
    · simp [Value.cells] at hcs
      obtain ⟨rfl, rfl, rfl⟩ := hcs
      exact ⟨zs, .inr ⟨_, rfl, hl, hm, by simpa using hz, hcell, hwz⟩⟩
  obtain ⟨a3, rfl, rfl, rfl, w3⟩ := open_int Ybad.underlying23 (hval 3 23 v3 rfl rfl) h3
  obtain ⟨a4, rfl, rfl, rfl, w4⟩ := open_int Ybad.underlying23 (hval 4 23 v4 rfl rfl) h4
  clear hA0 hV0 hval0
  have hB : 0 < W.heap.size := World.block_lt_of_cell? _ _ (World.var?_cell gPow hvar 0)
  refine (walk a0 a1 a2 len2 cap2 z2 a3 a4 W w0 w1 w2 w3 w4 hvar).mono fun e W' ⟨he, bel⟩ => ?_
  subst he
  have hvar' : W'.var? Ybad.prog "example.com/crossbook/crossbook/amount.powers" = some tabV := var?_below bel gPow hB hvar
  have hvars : DataW.TrodVars enc Ybad.prog W' (fun b => decide (b < W.heap.size)) ["example.com/crossbook/crossbook/amount.powers"] [Rows.laid_example_com_crossbook_crossbook_amount_powers] (MemPlace.row ⟨0, 0, none⟩ tabV.size ++ [] ++ []) :=
    ⟨0, 56, tabV, 3, [], [], gPow, tPow, hvar', reads_table enc W' _, rfl, rfl⟩
  exact ⟨_, rfl, _, _, _, [], _, _, hW', trodAll_mk1 (shut_bool Ybad.underlying4 _), (trodAll_cons_mk (shut_int Ybad.underlying5 w0) (trodAll_cons_mk (shut_int Ybad.underlying5 w1) (trodAll_cons_mk (Below.trod laidOut (by kernel_rfl) (of_decide_eq_true (by kernel_rfl)) k2 bel lt2) (trodAll_cons_mk (shut_int Ybad.underlying23 w3) (trodAll_cons_mk (shut_int Ybad.underlying23 w4) trodAll_mk0))))), hvars, bel.frame _, fun h => by cases h⟩

theorem row_holds : Rows.LawS5880BWholeSaid :=
  OpenClaim.holds_of_wide 3 Ybad.f3 rfl rfl rfl rfl rfl rfl rfl ⟨rfl, rfl, rfl, rfl, rfl⟩ rfl rfl rfl rfl rfl (by kernel_rfl) Ybad.func3 (by kernel_rfl)
    (of_decide_eq_true (by kernel_rfl)) (by unfold Func.isWrapper; first | (rw [if_pos (by decide +kernel)]; kernel_rfl) | (rw [if_neg (by decide +kernel)]; exact ⟨rfl, rfl⟩))
    (fun os started H enc _ => lifted os started H enc)

/-- THE TIED CARD. -/
theorem proved : Rows.LawS5880BWholeCardSaid :=
  Claim7.holds_tied_plain_at .later [] [.wider] true (true, "f5d02d8c8d41e4cccb7d881551b4c5e591ec59139eec7a56c104987a07513150") false
    row_holds (fun _ h => by cases h) (by kernel_rfl) (fun _ h => by cases h) lawS5880BWhole_row_tie rfl ⟨rfl, rfl⟩ (by kernel_rfl) rfl
    (fun f fn hf hfn => by
      obtain rfl : f = 3 := Option.some.inj ((show Ybad.prog.funcNamed "example.com/crossbook/crossbook/book.LawS5880BWhole" = some 3 by kernel_rfl).symm.trans hf) |>.symm
      obtain rfl : fn = Ybad.f3 := (Option.some.inj (Ybad.func3.symm.trans hfn)).symm
      exact ⟨by kernel_rfl, fun j t ht => by
        rw [Ybad.params3] at ht
        have h3 : t = 5 ∨ t = 22 ∨ t = 23 := by
          rcases j with _ | _ | _ | _ | _ | j
          · exact .inl (by simpa using ht.symm)
          · exact .inl (by simpa using ht.symm)
          · exact .inr (.inl (by simpa using ht.symm))
          · exact .inr (.inr (by simpa using ht.symm))
          · exact .inr (.inr (by simpa using ht.symm))
          · simp at ht
        rcases h3 with rfl | rfl | rfl
        · exact (show Ybad.prog.wantsStandIn 5 = false by kernel_rfl)
        · exact (show Ybad.prog.wantsStandIn 22 = false by kernel_rfl)
        · exact (show Ybad.prog.wantsStandIn 23 = false by kernel_rfl)⟩)
    (by kernel_rfl)
end Go.Proofs.YbulkdqteDoor
