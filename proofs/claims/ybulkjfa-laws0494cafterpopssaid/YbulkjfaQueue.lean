/-
  THE CONTRACTS OF '(*queue).first' AND '(*queue).pop'.
-/
import Derived.Test.YbulkjfaActs
import Derived.RegionTactic
import Derived.BigRegion
import Derived.Deep.QuietTactic
import Derived.BigQuiet
import Derived.Laws.EntriesVeiled
namespace Go.Proofs.Ybulkjfa
open Go.RowKit

/-- '(*queue).first' where head stands at the end: none. -/
theorem first_end (g r n : Nat) (w : World) (_hn : n ≤ 1024) (c1 : w.cell? ⟨g, 1, none⟩ = some (.slice (some ⟨r, 0, none⟩) n n)) (c2 : w.cell? ⟨g, 2, none⟩ = some (.int .i64 (n : Int))) :
    Calls Yba.prog 12 #[.pointer (some ⟨g, 0, none⟩)] w fun e w' => e = .returned (.tuple #[.int .i64 0, .bool false]) ∧ ∃ m, w' = w.drewN m := by
  go_enter Yba.func12, Yba.ntmps12
  go_wp2
  go_quiet (fail)
  go_wp2
  go_ret2
  exact ⟨rfl, _, rfl⟩

/-- '(*queue).first' where head stands at an action: its time. -/
theorem first_at (g r n h : Nat) (x : Int) (w : World) (_hn : n ≤ 1024) (hh : h < n) (c1 : w.cell? ⟨g, 1, none⟩ = some (.slice (some ⟨r, 0, none⟩) n n)) (c2 : w.cell? ⟨g, 2, none⟩ = some (.int .i64 (h : Int)))
    (cr : w.cell? ⟨r, h * 8, none⟩ = some (.int .i64 x)) :
    Calls Yba.prog 12 #[.pointer (some ⟨g, 0, none⟩)] w fun e w' => e = .returned (.tuple #[.int .i64 x, .bool true]) ∧ ∃ m, w' = w.drewN m := by
  have hne : ((h : Int) == (n : Int)) = false := beq_eq_false_iff_ne.2 (by omega)
  go_enter Yba.func12, Yba.ntmps12
  go_wp2
  go_quiet (fail)
  go_wp2
  go_quiet (fail)
  go_wp2
  go_ret2
  exact ⟨rfl, _, World.drewN_drewN _ _ _⟩
end Go.Proofs.Ybulkjfa
