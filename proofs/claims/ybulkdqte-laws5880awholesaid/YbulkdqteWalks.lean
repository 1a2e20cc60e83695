/-
  DERIVED. THE WALKS over toys/ybulkdqte/ybulkdqte.go: what each call does to the world, said of cells (HOWTO 4 (d); a statement that leaves its order open: HOWTO 5; a loop: HOWTO 6).
-/
import Derived.Test.YbulkdqteRows
import Derived.WalkKit      -- the walk's tactics, all law files, 'go_outline', the laws for what the call itself makes, 'Below': one name for all (Derived/WalkKit.lean lists them)
import Derived.WalkSpells   -- 'cell_one_new', 'cell_later', 'run_slice_of_slice' ..: small facts that a walk wants (HOWTO 8b)
import Derived.WalkLawsBesides   -- eleven texts of laws that WalkKit does not bring: floats, complex numbers, '<=' on strings, a slice against nil, Go's own panics, small laws for a world that is a variable (HOWTO 8b's head; howto/COVERAGE-ROWS.tsv)
namespace Go.Proofs.Ybulkdqte
open Go.RowKit

-- ONE THEOREM A FUNCTION AND A BRANCH. The arguments as VALUES with variables in them; one hypothesis for each cell that is read ('w.cell? a = some v') and each that is written ('w.frozen? a = false').
-- THE PURSE WHILE YOU EXPLORE: 400000 (the worked examples bear 1000000 and more: THEIR walks are found): a contract that does not fit, or a hypothesis taken for a rewrite rule, then ends in half a minute, not in two (HOWTO 1, 8). Raise it when the walk is right and the purse alone is short.
set_option maxHeartbeats 400000 in
theorem f_any (a b : Int) (w : World) :
    Calls Yba.prog 3 #[.int .i32 a, .int .i32 b] w fun e w' => e = .returned (.int .i32 a) ∧ w' = w := by
  go_enter Yba.func3, Yba.ntmps3
  go_wp2        -- IF THE NEXT LINE FAILS: put 'go_outline' here and read what 'go_wp2' has left (HOWTO 8)
  go_ret        -- NO result: 'go_end0', and 'e = .returned (.tuple #[])' · TWO: 'go_ret2', '.returned (.tuple #[v0, v1])' · THREE: 'go_ret3'
  exact ⟨rfl, rfl⟩

end Go.Proofs.Ybulkdqte
