/-
  LawS5880BWhole: the contract of (*ladder).search: over a leaf whose entries from lo to hi are in order it returns the first place whose price is not better than the query.
-/
import Derived.Test.YbulkdqteDoorAmt
import Derived.Deep.RegionHeld3
import Derived.Deep.QuietTactic
import Derived.BigQuiet
import Derived.WalkSmall
namespace Go.Proofs.YbulkdqteDoor.B
open Go.ChangeShapes Go.WideShapes Go.ChangeAt Go.RowKit

theorem hidIt {p : Prop} (h : p) : Hid p := h
def BetterSaid (L : Nat) (s : Int) (bt : Int → Int → Bool) : Prop :=
  ∀ (x y : Int) (w : World), w.cell? ⟨L, 1, none⟩ = some (.int .u8 s) → L < w.heap.size →
    Calls Ybad.prog 7 #[.pointer (some ⟨L, 0, none⟩), am x, am y] w fun e w' => e = .returned (.bool (bt x y)) ∧ Below w.heap.size w w'
theorem bcell {B : Nat} {W w1 : World} (hb : Below B W w1) : (∀ b o, b < B → w1.cell? ⟨b, o, none⟩ = W.cell? ⟨b, o, none⟩) ∧ (∀ b o, b < B → w1.frozen? ⟨b, o, none⟩ = W.frozen? ⟨b, o, none⟩) :=
  ⟨fun b o h => hb.cell (p := ⟨b, o, none⟩) h, fun b o h => hb.frozen (p := ⟨b, o, none⟩) h⟩
theorem facts_at (L U : Nat) (s q : Int) (f : Nat → Int) (w wr : World) (hs : w.cell? ⟨L, 1, none⟩ = some (.int .u8 s)) (hL : L < w.heap.size) (hU : U < w.heap.size)
    (ce : ∀ i, i < 64 → w.cell? ⟨U, 8 + i * 6, none⟩ = some (.int .u64 0) ∧ w.cell? ⟨U, 8 + i * 6 + 1, none⟩ = some (.int .u64 (f i)))
    (hB : Below (w.heap.size + 1) (w.alloc (.cells #[.int .u64 0, .int .u64 q] 31)) wr) :
    (L < wr.heap.size ∧ U < wr.heap.size ∧ w.heap.size < wr.heap.size) ∧ wr.cell? ⟨L, 1, none⟩ = some (.int .u8 s) ∧ wr.cell? ⟨w.heap.size, 0, none⟩ = some (.int .u64 0) ∧ wr.cell? ⟨w.heap.size, 1, none⟩ = some (.int .u64 q) ∧
    (∀ i, i < 64 → wr.cell? ⟨U, 8 + i * 6, none⟩ = some (.int .u64 0) ∧ wr.cell? ⟨U, 8 + i * 6 + 1, none⟩ = some (.int .u64 (f i))) := by
  obtain ⟨hc, hfz⟩ := bcell hB
  have hsz : w.heap.size + 1 ≤ wr.heap.size := by simpa using hB.size
  refine ⟨⟨by omega, by omega, by omega⟩, ?_, ?_, ?_, ?_⟩
  · rw [hc _ _ (by omega), World.cell?_alloc_past _ _ _ hL]; exact hs
  · rw [hc _ _ (by omega)]; simp
  · rw [hc _ _ (by omega)]; simp
  · intro i hi
    rw [hc _ _ (by omega), hc _ _ (by omega), World.cell?_alloc_past _ _ _ hU, World.cell?_alloc_past _ _ _ hU]
    exact ce i hi
theorem below_on {B : Nat} {w0 wr w' : World} (hB : Below B w0 wr) (hsz : B ≤ wr.heap.size) (hb : Below wr.drew.heap.size wr.drew w') : Below B w0 w' :=
  (hB.drew).trans (hb.mono (by simpa using hsz))
theorem below_end {w wr : World} {o : Obj} (hB : Below (w.heap.size + 1) (w.alloc o) wr) : Below w.heap.size w wr :=
  ((Below.refl _ _).alloc (Nat.le_refl _) _).trans (hB.mono (by omega))
set_option maxHeartbeats 1000000 in
set_option maxRecDepth 100000 in
theorem search_any (L U lo hi : Nat) (s q : Int) (f : Nat → Int) (bt : Int → Int → Bool) (hbet : BetterSaid L s bt) (hlo : lo ≤ hi) (hhi : hi ≤ 64)
    (hm : ∀ i j, lo ≤ i → i ≤ j → j < hi → bt (f j) q = true → bt (f i) q = true)
    (w : World) (hs : w.cell? ⟨L, 1, none⟩ = some (.int .u8 s)) (hL : L < w.heap.size) (hU : U < w.heap.size)
    (c0 : w.cell? ⟨U, 0, none⟩ = some (.int .i64 lo)) (c1 : w.cell? ⟨U, 1, none⟩ = some (.int .i64 hi))
    (ce : ∀ i, i < 64 → w.cell? ⟨U, 8 + i * 6, none⟩ = some (.int .u64 0) ∧ w.cell? ⟨U, 8 + i * 6 + 1, none⟩ = some (.int .u64 (f i))) :
    Calls Ybad.prog 5 #[.pointer (some ⟨L, 0, none⟩), .pointer (some ⟨U, 0, none⟩), am q] w fun e w' => ∃ p : Nat, e = .returned (.int .i64 p) ∧ lo ≤ p ∧ p ≤ hi ∧ (∀ i, lo ≤ i → i < p → bt (f i) q = true) ∧ (p < hi → bt (f p) q = false) ∧ Below w.heap.size w w' := by
  have Hm := hidIt hm
  clear hm
  have Hce := hidIt ce
  clear ce
  go_enter Ybad.func5, Ybad.ntmps5
  go_wp2
  go_quiet (fail)
  go_wp2
  go_loopw [7, 8, 9] (fun a b c wr => ∃ k st : Nat, a = .int .i64 k ∧ b = .int .i64 hi ∧ c = .int .i64 st ∧ lo ≤ k ∧ k ≤ hi ∧ 1 ≤ st ∧ st ≤ 128 ∧ (k < hi → lo + st ≤ k + 1) ∧ Hid (∀ i, lo ≤ i → i < k → bt (f i) q = true) ∧
      Hid (Below (w.heap.size + 1) (w.alloc (.cells #[.int .u64 0, .int .u64 q] 31)) wr)) (fun a _ _ _ => hi - (intOf a).toNat)
  case atStart => exact ⟨lo, 1, rfl, rfl, rfl, by omega, hlo, by omega, by omega, by omega, hidIt (fun i h1 h2 => absurd h1 (by omega)), hidIt (below_drewN (Below.refl _ _) _)⟩
  case round =>
    obtain ⟨k, st, rfl, rfl, rfl, h1, h2, h3, h4, h5, H6, H7⟩ := hrel
    obtain ⟨⟨hLr, hUr, hwr⟩, cL, cb0, cb1, cU⟩ := facts_at L U s q f w wr hs hL hU Hce.out H7.out
    have HcU := hidIt cU
    clear cU
    by_cases hk : k < hi
    · by_cases hmin : k + st ≤ hi
      all_goals
        obtain ⟨p, hp, hp1, hp2, hp3⟩ : ∃ p : Nat, (if k + st ≤ hi then (k : Int) + st - 1 else hi - 1) = p ∧ k ≤ p ∧ p < hi ∧ (p + 1 < hi → p + 1 = k + st) := by
          first
          | (rw [if_pos hmin]; exact ⟨k + st - 1, by omega, by omega, by omega, by omega⟩)
          | (rw [if_neg hmin]; exact ⟨hi - 1, by omega, by omega, by omega, by omega⟩)
        first | rw [if_pos hmin] at hp | rw [if_neg hmin] at hp
        have Hp := hidIt hp
        clear hp
        obtain ⟨d0, d1⟩ := HcU.out p (by omega)
        have i0 : (0 : Int) ≤ p := by omega
        have i1 : (p : Int) < 64 := by omega
        cases hbt : bt (f p) q
        · have Hbt := hidIt hbt
          go_wp2
          rw [Hp.out]
          go_region_held3 (fun w' => w'.cell? ⟨L, 1, none⟩ = some (.int .u8 s) ∧ w'.cell? ⟨w.heap.size, 0, none⟩ = some (.int .u64 0) ∧ w'.cell? ⟨w.heap.size, 1, none⟩ = some (.int .u64 q) ∧ w'.cell? ⟨U, 8 + p * 6, none⟩ = some (.int .u64 0) ∧ w'.cell? ⟨U, 8 + p * 6 + 1, none⟩ = some (.int .u64 (f p))) (first | go_keep | (go_split_ands; refine ⟨?_, ?_, ?_, ?_, ?_⟩ <;> (rw [hc' _ _ (by simp <;> omega)]; simp [*])))
          (first | (go_at_call 7; refine (hbet _ _ _ ?_ ?_).mono ?_; (simp [*]); (simp [*]); rintro e w' ⟨rfl, hb⟩; obtain ⟨hc', hf'⟩ := bcell hb))
          go_wp2
          go_loopw [7, 8] (fun a b wz => ∃ k h : Nat, a = .int .i64 k ∧ b = .int .i64 h ∧ lo ≤ k ∧ k ≤ h ∧ h ≤ hi ∧ Hid (∀ i, lo ≤ i → i < k → bt (f i) q = true) ∧ Hid (h < hi → bt (f h) q = false) ∧
              Hid (Below (w.heap.size + 1) (w.alloc (.cells #[.int .u64 0, .int .u64 q] 31)) wz)) (fun a b _ => (intOf b).toNat - (intOf a).toNat)
          case atStart => exact ⟨k, p, rfl, rfl, by omega, by omega, by omega, H6, hidIt (fun _ => Hbt.out), hidIt (below_on H7.out (by omega) hb)⟩
          case round =>
            clear H6 H7 HcU cL cb0 cb1 d0 d1 hb hc' hf' hbt Hbt Hp
            obtain ⟨k2, h2', rfl, rfl, g1, g2, g3, G6, G7, G8⟩ := hrel
            obtain ⟨⟨hLr, hUr, hwr⟩, cL, cb0, cb1, cU⟩ := facts_at L U s q f w wr hs hL hU Hce.out G8.out
            have HcU := hidIt cU
            clear cU
            by_cases hk2 : k2 < h2'
            · obtain ⟨p, hp, hp1, hp2⟩ : ∃ p : Nat, ((k2 : Int) + h2') / 2 = p ∧ k2 ≤ p ∧ p < h2' := ⟨(k2 + h2') / 2, by omega, by omega, by omega⟩
              have Hp := hidIt hp
              clear hp
              obtain ⟨d0, d1⟩ := HcU.out p (by omega)
              have i0 : (0 : Int) ≤ p := by omega
              have i1 : (p : Int) < 64 := by omega
              cases hbt : bt (f p) q
              · have Hbt := hidIt hbt
                go_wp2
                rw [Hp.out]
                go_region_held3 (fun w' => w'.cell? ⟨L, 1, none⟩ = some (.int .u8 s) ∧ w'.cell? ⟨w.heap.size, 0, none⟩ = some (.int .u64 0) ∧ w'.cell? ⟨w.heap.size, 1, none⟩ = some (.int .u64 q) ∧ w'.cell? ⟨U, 8 + p * 6, none⟩ = some (.int .u64 0) ∧ w'.cell? ⟨U, 8 + p * 6 + 1, none⟩ = some (.int .u64 (f p))) (first | go_keep | (go_split_ands; refine ⟨?_, ?_, ?_, ?_, ?_⟩ <;> (rw [hc' _ _ (by simp <;> omega)]; simp [*])))
                    (first | (go_at_call 7; refine (hbet _ _ _ ?_ ?_).mono ?_; (simp [*]); (simp [*]); rintro e w' ⟨rfl, hb⟩; obtain ⟨hc', hf'⟩ := bcell hb))
                go_wp2
                go_roundw
                case rel => exact ⟨k2, p, rfl, rfl, by omega, by omega, by omega, G6, hidIt (fun _ => Hbt.out), hidIt (below_on G8.out (by omega) hb)⟩
                case measure => simp [intOf]; omega
              · have Hbt := hidIt hbt
                go_wp2
                rw [Hp.out]
                go_region_held3 (fun w' => w'.cell? ⟨L, 1, none⟩ = some (.int .u8 s) ∧ w'.cell? ⟨w.heap.size, 0, none⟩ = some (.int .u64 0) ∧ w'.cell? ⟨w.heap.size, 1, none⟩ = some (.int .u64 q) ∧ w'.cell? ⟨U, 8 + p * 6, none⟩ = some (.int .u64 0) ∧ w'.cell? ⟨U, 8 + p * 6 + 1, none⟩ = some (.int .u64 (f p))) (first | go_keep | (go_split_ands; refine ⟨?_, ?_, ?_, ?_, ?_⟩ <;> (rw [hc' _ _ (by simp <;> omega)]; simp [*])))
                    (first | (go_at_call 7; refine (hbet _ _ _ ?_ ?_).mono ?_; (simp [*]); (simp [*]); rintro e w' ⟨rfl, hb⟩; obtain ⟨hc', hf'⟩ := bcell hb))
                go_wp2
                go_roundw
                case rel => exact ⟨p + 1, h2', by go_num, rfl, by omega, by omega, by omega, hidIt (fun i j1 j2 => Hm.out i p j1 (by omega) (by omega) Hbt.out), G7, hidIt (below_on G8.out (by omega) hb)⟩
                case measure => simp [intOf]; omega
            · go_wp2
              go_ret
              obtain rfl : k2 = h2' := by omega
              exact ⟨k2, rfl, g1, g3, G6.out, G7.out, below_end G8.out⟩
        · have Hbt := hidIt hbt
          go_wp2
          rw [Hp.out]
          go_region_held3 (fun w' => w'.cell? ⟨L, 1, none⟩ = some (.int .u8 s) ∧ w'.cell? ⟨w.heap.size, 0, none⟩ = some (.int .u64 0) ∧ w'.cell? ⟨w.heap.size, 1, none⟩ = some (.int .u64 q) ∧ w'.cell? ⟨U, 8 + p * 6, none⟩ = some (.int .u64 0) ∧ w'.cell? ⟨U, 8 + p * 6 + 1, none⟩ = some (.int .u64 (f p))) (first | go_keep | (go_split_ands; refine ⟨?_, ?_, ?_, ?_, ?_⟩ <;> (rw [hc' _ _ (by simp <;> omega)]; simp [*])))
          (first | (go_at_call 7; refine (hbet _ _ _ ?_ ?_).mono ?_; (simp [*]); (simp [*]); rintro e w' ⟨rfl, hb⟩; obtain ⟨hc', hf'⟩ := bcell hb))
          go_wp2
          go_roundw
          case rel => exact ⟨p + 1, st * 2, by go_num, rfl, by go_num, by omega, by omega, by omega, by omega, by omega, hidIt (fun i j1 j2 => Hm.out i p j1 (by omega) hp2 Hbt.out), hidIt (below_on H7.out (by omega) hb)⟩
          case measure => simp [intOf]; omega
    · go_wp2
      go_loopw [7, 8] (fun a b wz => ∃ k h : Nat, a = .int .i64 k ∧ b = .int .i64 h ∧ lo ≤ k ∧ k ≤ h ∧ h ≤ hi ∧ Hid (∀ i, lo ≤ i → i < k → bt (f i) q = true) ∧ Hid (h < hi → bt (f h) q = false) ∧
          Hid (Below (w.heap.size + 1) (w.alloc (.cells #[.int .u64 0, .int .u64 q] 31)) wz)) (fun a b _ => (intOf b).toNat - (intOf a).toNat)
      case atStart => exact ⟨k, hi, rfl, rfl, by omega, by omega, by omega, H6, hidIt (fun h => absurd h (by omega)), H7⟩
      case round =>
        clear H6 H7 HcU cL cb0 cb1
        obtain ⟨k2, h2', rfl, rfl, g1, g2, g3, G6, G7, G8⟩ := hrel
        obtain ⟨⟨hLr, hUr, hwr⟩, cL, cb0, cb1, cU⟩ := facts_at L U s q f w wr hs hL hU Hce.out G8.out
        have HcU := hidIt cU
        clear cU
        by_cases hk2 : k2 < h2'
        · obtain ⟨p, hp, hp1, hp2⟩ : ∃ p : Nat, ((k2 : Int) + h2') / 2 = p ∧ k2 ≤ p ∧ p < h2' := ⟨(k2 + h2') / 2, by omega, by omega, by omega⟩
          have Hp := hidIt hp
          clear hp
          obtain ⟨d0, d1⟩ := HcU.out p (by omega)
          have i0 : (0 : Int) ≤ p := by omega
          have i1 : (p : Int) < 64 := by omega
          cases hbt : bt (f p) q
          · have Hbt := hidIt hbt
            go_wp2
            rw [Hp.out]
            go_region_held3 (fun w' => w'.cell? ⟨L, 1, none⟩ = some (.int .u8 s) ∧ w'.cell? ⟨w.heap.size, 0, none⟩ = some (.int .u64 0) ∧ w'.cell? ⟨w.heap.size, 1, none⟩ = some (.int .u64 q) ∧ w'.cell? ⟨U, 8 + p * 6, none⟩ = some (.int .u64 0) ∧ w'.cell? ⟨U, 8 + p * 6 + 1, none⟩ = some (.int .u64 (f p))) (first | go_keep | (go_split_ands; refine ⟨?_, ?_, ?_, ?_, ?_⟩ <;> (rw [hc' _ _ (by simp <;> omega)]; simp [*])))
                (first | (go_at_call 7; refine (hbet _ _ _ ?_ ?_).mono ?_; (simp [*]); (simp [*]); rintro e w' ⟨rfl, hb⟩; obtain ⟨hc', hf'⟩ := bcell hb))
            go_wp2
            go_roundw
            case rel => exact ⟨k2, p, rfl, rfl, by omega, by omega, by omega, G6, hidIt (fun _ => Hbt.out), hidIt (below_on G8.out (by omega) hb)⟩
            case measure => simp [intOf]; omega
          · have Hbt := hidIt hbt
            go_wp2
            rw [Hp.out]
            go_region_held3 (fun w' => w'.cell? ⟨L, 1, none⟩ = some (.int .u8 s) ∧ w'.cell? ⟨w.heap.size, 0, none⟩ = some (.int .u64 0) ∧ w'.cell? ⟨w.heap.size, 1, none⟩ = some (.int .u64 q) ∧ w'.cell? ⟨U, 8 + p * 6, none⟩ = some (.int .u64 0) ∧ w'.cell? ⟨U, 8 + p * 6 + 1, none⟩ = some (.int .u64 (f p))) (first | go_keep | (go_split_ands; refine ⟨?_, ?_, ?_, ?_, ?_⟩ <;> (rw [hc' _ _ (by simp <;> omega)]; simp [*])))
                (first | (go_at_call 7; refine (hbet _ _ _ ?_ ?_).mono ?_; (simp [*]); (simp [*]); rintro e w' ⟨rfl, hb⟩; obtain ⟨hc', hf'⟩ := bcell hb))
            go_wp2
            go_roundw
            case rel => exact ⟨p + 1, h2', by go_num, rfl, by omega, by omega, by omega, hidIt (fun i j1 j2 => Hm.out i p j1 (by omega) (by omega) Hbt.out), G7, hidIt (below_on G8.out (by omega) hb)⟩
            case measure => simp [intOf]; omega
        · go_wp2
          go_ret
          obtain rfl : k2 = h2' := by omega
          exact ⟨k2, rfl, g1, g3, G6.out, G7.out, below_end G8.out⟩
end Go.Proofs.YbulkdqteDoor.B
