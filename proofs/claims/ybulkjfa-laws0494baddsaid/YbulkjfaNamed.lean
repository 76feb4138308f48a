/-
  'sim.Report' AS A ROW OF THIRTY CELLS UNDER A NAME ('rep'), AND THE CONTRACT OF '(*Report).named' OVER IT.
-/
import Derived.Test.YbulkjfaRows
import Derived.WalkKit
import Derived.ProofKit
import Derived.OpenShut
import Derived.Deep.WholeRow
namespace Go.Proofs.Ybulkjfa
open Go.RowKit

/-- The cells of a Report of which only the fields that the laws set may be other than zero. -/
def rep (s : ByteArray) (leaps exch found unres nam hold enough msgs tb : Int) : Array Value :=
  #[.string s, .string ⟨#[]⟩, .int .u64 0, .int .i64 0, .int .i64 leaps, .int .i64 0, .int .i64 0, .int .i64 0, .int .i64 0, .int .i64 0,
    .int .i64 0, .int .i64 exch, .int .i64 0, .int .i64 found, .int .i64 unres, .int .i64 nam, .int .i64 hold, .int .i64 0, .int .i64 enough, .int .i64 0,
    .int .i64 msgs, .int .i64 0, .int .i64 0, .int .i64 0, .int .i64 0, .int .i64 tb, .float .f64 0, .float .f64 0, .int .i64 0, .int .i64 0]

/-- What 'named' makes of the count of leaps found, and of those not resolved. -/
def fnd (h x : Int) : Int := if 0 < h then wrap64 (x + 1) else x
def unr (h x : Int) : Int := if 0 < h then x else wrap64 (x + 1)
/-- What 'named' makes of the count of leaps with enough upload. -/
def eno (b : Bool) (x : Int) : Int := if b then wrap64 (x + 1) else x

section
variable (s : ByteArray) (leaps exch found unres nam hold enough msgs tb : Int)
theorem rep_13 : (rep s leaps exch found unres nam hold enough msgs tb)[13]? = some (.int .i64 found) := rfl
theorem rep_14 : (rep s leaps exch found unres nam hold enough msgs tb)[14]? = some (.int .i64 unres) := rfl
theorem rep_15 : (rep s leaps exch found unres nam hold enough msgs tb)[15]? = some (.int .i64 nam) := rfl
theorem rep_16 : (rep s leaps exch found unres nam hold enough msgs tb)[16]? = some (.int .i64 hold) := rfl
theorem rep_18 : (rep s leaps exch found unres nam hold enough msgs tb)[18]? = some (.int .i64 enough) := rfl
theorem set_13 (x : Int) : (rep s leaps exch found unres nam hold enough msgs tb).setIfInBounds 13 (.int .i64 x) = rep s leaps exch x unres nam hold enough msgs tb := rfl
theorem set_14 (x : Int) : (rep s leaps exch found unres nam hold enough msgs tb).setIfInBounds 14 (.int .i64 x) = rep s leaps exch found x nam hold enough msgs tb := rfl
theorem set_15 (x : Int) : (rep s leaps exch found unres nam hold enough msgs tb).setIfInBounds 15 (.int .i64 x) = rep s leaps exch found unres x hold enough msgs tb := rfl
theorem set_16 (x : Int) : (rep s leaps exch found unres nam hold enough msgs tb).setIfInBounds 16 (.int .i64 x) = rep s leaps exch found unres nam x enough msgs tb := rfl
theorem set_18 (x : Int) : (rep s leaps exch found unres nam hold enough msgs tb).setIfInBounds 18 (.int .i64 x) = rep s leaps exch found unres nam hold x msgs tb := rfl
theorem rep_size : (rep s leaps exch found unres nam hold enough msgs tb).size = 30 := rfl
theorem rep_one : (rep s leaps exch found unres nam hold enough msgs tb).all (·.oneCell') = true := by simp [rep, Value.oneCell']
end

/-- '(*Report).named' on cells: four ways through. -/
theorem named_cells (g : Nat) (n h x13 x14 x15 x16 x18 : Int) (en : Bool) (w : World)
    (c13 : w.cell? ⟨g, 13, none⟩ = some (.int .i64 x13)) (c14 : w.cell? ⟨g, 14, none⟩ = some (.int .i64 x14)) (c15 : w.cell? ⟨g, 15, none⟩ = some (.int .i64 x15))
    (c16 : w.cell? ⟨g, 16, none⟩ = some (.int .i64 x16)) (c18 : w.cell? ⟨g, 18, none⟩ = some (.int .i64 x18))
    (f : ∀ i, w.frozen? ⟨g, i, none⟩ = false) :
    Calls Yba.prog 9 #[.pointer (some ⟨g, 0, none⟩), .int .i64 n, .int .i64 h, .bool en] w fun e w' => e = .returned (.tuple #[]) ∧
      w' = (let w1 := (w.setCell ⟨g, 15, none⟩ (.int .i64 (wrap64 (x15 + n)))).setCell ⟨g, 16, none⟩ (.int .i64 (wrap64 (x16 + h)))
            let w2 := if 0 < h then w1.setCell ⟨g, 13, none⟩ (.int .i64 (wrap64 (x13 + 1))) else w1.setCell ⟨g, 14, none⟩ (.int .i64 (wrap64 (x14 + 1)))
            if en then w2.setCell ⟨g, 18, none⟩ (.int .i64 (wrap64 (x18 + 1))) else w2) := by
  by_cases hh : 0 < h
  · clear c14
    cases en
    · simp only [if_pos hh, Bool.false_eq_true, if_false]
      clear c18
      go_enter Yba.func9, Yba.ntmps9
      go_wp2
      go_end0
      exact ⟨rfl, rfl⟩
    · simp only [if_pos hh, if_true]
      go_enter Yba.func9, Yba.ntmps9
      go_wp2
      go_end0
      exact ⟨rfl, rfl⟩
  · clear c13
    cases en
    · simp only [if_neg hh, Bool.false_eq_true, if_false]
      clear c18
      go_enter Yba.func9, Yba.ntmps9
      go_wp2
      go_end0
      exact ⟨rfl, rfl⟩
    · simp only [if_neg hh, if_true]
      go_enter Yba.func9, Yba.ntmps9
      go_wp2
      go_end0
      exact ⟨rfl, rfl⟩

/-- '(*Report).named' on a Report that lies at the head of a block. -/
theorem named_row (g : Nat) (s : ByteArray) (leaps exch found unres nam hold enough msgs tb n h : Int) (en : Bool) (w : World)
    (hg : w.heap[g]? = some (.cells (rep s leaps exch found unres nam hold enough msgs tb) 27 (0, 0))) :
    Calls Yba.prog 9 #[.pointer (some ⟨g, 0, none⟩), .int .i64 n, .int .i64 h, .bool en] w fun e w' => e = .returned (.tuple #[]) ∧
      w' = w.setRow g (rep s leaps exch (fnd h found) (unr h unres) (wrap64 (nam + n)) (wrap64 (hold + h)) (eno en enough) msgs tb) := by
  refine (named_cells g n h found unres nam hold enough en w (by rw [cell_of_row w g 13 _ _ _ hg, rep_13]) (by rw [cell_of_row w g 14 _ _ _ hg, rep_14]) (by rw [cell_of_row w g 15 _ _ _ hg, rep_15])
    (by rw [cell_of_row w g 16 _ _ _ hg, rep_16]) (by rw [cell_of_row w g 18 _ _ _ hg, rep_18]) (fun i => frozen_of_row w g i _ _ hg)).mono ?_
  rintro e w' ⟨rfl, rfl⟩
  refine ⟨rfl, ?_⟩
  have h1 := setRow_heap w g _ (rep s leaps exch found unres (wrap64 (nam + n)) hold enough msgs tb) _ _ hg
  have h2 := setRow_heap w g _ (rep s leaps exch found unres (wrap64 (nam + n)) (wrap64 (hold + h)) enough msgs tb) _ _ hg
  have h3 := setRow_heap w g _ (rep s leaps exch (wrap64 (found + 1)) unres (wrap64 (nam + n)) (wrap64 (hold + h)) enough msgs tb) _ _ hg
  have h4 := setRow_heap w g _ (rep s leaps exch found (wrap64 (unres + 1)) (wrap64 (nam + n)) (wrap64 (hold + h)) enough msgs tb) _ _ hg
  simp only [setCell_eq_setRow w g 15 _ 27 (0, 0) _ hg, set_15, setCell_eq_setRow _ g 16 _ 27 (0, 0) _ h1, set_16, setRow_setRow,
    setCell_eq_setRow _ g 13 _ 27 (0, 0) _ h2, setCell_eq_setRow _ g 14 _ 27 (0, 0) _ h2, set_13, set_14]
  by_cases hh : 0 < h
  · simp only [if_pos hh, fnd, unr, setCell_eq_setRow _ g 18 _ 27 (0, 0) _ h3, set_18, setRow_setRow]
    cases en <;> simp [eno]
  · simp only [if_neg hh, fnd, unr, setCell_eq_setRow _ g 18 _ 27 (0, 0) _ h4, set_18, setRow_setRow]
    cases en <;> simp [eno]
end Go.Proofs.Ybulkjfa
