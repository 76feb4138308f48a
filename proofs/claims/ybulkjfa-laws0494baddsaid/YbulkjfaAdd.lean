/-
  THE CONTRACT OF '(*Report).add', WHERE WHAT IS ADDED COUNTS SEARCHES ALONE.
-/
import Derived.Test.YbulkjfaReport
import Derived.RegionTactic
import Derived.BigRegion
import Derived.LoopTactic
import Derived.Deep.Draws
namespace Go.Proofs.Ybulkjfa
open Go.RowKit

section
variable (s : ByteArray) (leaps exch found unres nam hold enough msgs tb : Int)
theorem rep_9 : (rep s leaps exch found unres nam hold enough msgs tb)[9]? = some (.int .i64 0) := rfl
theorem rep_10 : (rep s leaps exch found unres nam hold enough msgs tb)[10]? = some (.int .i64 0) := rfl
theorem rep_11 : (rep s leaps exch found unres nam hold enough msgs tb)[11]? = some (.int .i64 exch) := rfl
theorem rep_12 : (rep s leaps exch found unres nam hold enough msgs tb)[12]? = some (.int .i64 0) := rfl
theorem rep_19 : (rep s leaps exch found unres nam hold enough msgs tb)[19]? = some (.int .i64 0) := rfl
theorem rep_20 : (rep s leaps exch found unres nam hold enough msgs tb)[20]? = some (.int .i64 msgs) := rfl
theorem rep_25 : (rep s leaps exch found unres nam hold enough msgs tb)[25]? = some (.int .i64 tb) := rfl
theorem set_9 : (rep s leaps exch found unres nam hold enough msgs tb).setIfInBounds 9 (.int .i64 0) = rep s leaps exch found unres nam hold enough msgs tb := rfl
theorem set_10 : (rep s leaps exch found unres nam hold enough msgs tb).setIfInBounds 10 (.int .i64 0) = rep s leaps exch found unres nam hold enough msgs tb := rfl
theorem set_11 (x : Int) : (rep s leaps exch found unres nam hold enough msgs tb).setIfInBounds 11 (.int .i64 x) = rep s leaps x found unres nam hold enough msgs tb := rfl
theorem set_12 : (rep s leaps exch found unres nam hold enough msgs tb).setIfInBounds 12 (.int .i64 0) = rep s leaps exch found unres nam hold enough msgs tb := rfl
theorem set_19 : (rep s leaps exch found unres nam hold enough msgs tb).setIfInBounds 19 (.int .i64 0) = rep s leaps exch found unres nam hold enough msgs tb := rfl
theorem set_20 (x : Int) : (rep s leaps exch found unres nam hold enough msgs tb).setIfInBounds 20 (.int .i64 x) = rep s leaps exch found unres nam hold enough x tb := rfl
theorem set_25 (x : Int) : (rep s leaps exch found unres nam hold enough msgs tb).setIfInBounds 25 (.int .i64 x) = rep s leaps exch found unres nam hold enough msgs x := rfl
theorem rep_21k (k : Nat) (h : k < 4) : (rep s leaps exch found unres nam hold enough msgs tb)[21 + k]? = some (.int .i64 0) := by
  match k, h with
  | 0, _ => rfl
  | 1, _ => rfl
  | 2, _ => rfl
  | 3, _ => rfl
theorem set_21k (k : Nat) (h : k < 4) : (rep s leaps exch found unres nam hold enough msgs tb).setIfInBounds (21 + k) (.int .i64 0) = rep s leaps exch found unres nam hold enough msgs tb := by
  match k, h with
  | 0, _ => rfl
  | 1, _ => rfl
  | 2, _ => rfl
  | 3, _ => rfl
end

theorem setCell_drewN (w : World) (n : Nat) (a : Addr) (v : Value) : (w.drewN n).setCell a v = (w.setCell a v).drewN n := rfl

set_option maxHeartbeats 2000000 in
/-- '(*Report).add': each region that draws its order, in whatever order; the four byte counts by a loop. -/
theorem add_row (g o : Nat) (s t : ByteArray) (leaps exch found unres nam hold enough msgs tb f u n h e : Int) (w : World) (hgo : o ≠ g)
    (lx : -9223372036854775808 ≤ exch) (ux : exch ≤ 9223372036854775807) (lm : -9223372036854775808 ≤ msgs) (um : msgs ≤ 9223372036854775807) (lt : -9223372036854775808 ≤ tb) (ut : tb ≤ 9223372036854775807)
    (hg : w.heap[g]? = some (.cells (rep s leaps exch found unres nam hold enough msgs tb) 27 (0, 0)))
    (ho : w.heap[o]? = some (.cells (rep t 0 0 f u n h e 0 0) 27 (0, 0))) :
    Calls Yba.prog 10 #[.pointer (some ⟨g, 0, none⟩), .pointer (some ⟨o, 0, none⟩)] (w.setRow g (rep s leaps exch found unres nam hold enough msgs tb)) fun e' w' => e' = .returned (.tuple #[]) ∧
      ∃ m, w' = (w.setRow g (rep s leaps exch (wrap64 (found + f)) (wrap64 (unres + u)) (wrap64 (nam + n)) (wrap64 (hold + h)) (wrap64 (enough + e)) msgs tb)).drewN m := by
  have cs : ∀ R i, (w.setRow g R).cell? ⟨g, i, none⟩ = R[i]? := fun R i => cell_setRow_same w g i _ R 27 (0, 0) hg
  have co : ∀ R i, (w.setRow g R).cell? ⟨o, i, none⟩ = (rep t 0 0 f u n h e 0 0)[i]? := fun R i => by rw [cell_setRow_other w g R _ hgo, cell_of_row w o i _ 27 (0, 0) ho]
  have fz : ∀ R i, (w.setRow g R).frozen? ⟨g, i, none⟩ = false := fun R i => frozen_of_row _ g i R 27 (setRow_heap w g _ R 27 (0, 0) hg)
  have sc : ∀ R i v, (w.setRow g R).setCell ⟨g, i, none⟩ v = w.setRow g (R.setIfInBounds i v) := fun R i v => by rw [setCell_eq_setRow _ g i R 27 (0, 0) v (setRow_heap w g _ R 27 (0, 0) hg), setRow_setRow]
  clear hg ho
  have r9 := rep_9
  have r10 := rep_10
  have r11 := rep_11
  have r12 := rep_12
  have r13 := rep_13
  have r14 := rep_14
  have r15 := rep_15
  have r16 := rep_16
  have r18 := rep_18
  have r19 := rep_19
  have r20 := rep_20
  have r25 := rep_25
  have s9 := set_9
  have s10 := set_10
  have s11 := set_11
  have s12 := set_12
  have s13 := set_13
  have s14 := set_14
  have s15 := set_15
  have s16 := set_16
  have s18 := set_18
  have s19 := set_19
  have s20 := set_20
  have s25 := set_25
  go_enter Yba.func10, Yba.ntmps10
  go_wp2
  go_region
  go_wp2
  go_region
  go_wp2
  go_region
  go_wp2
  go_region
  go_wp2
  go_region
  go_wp2
  go_region
  go_wp2
  go_region
  go_wp2
  go_region
  go_wp2
  go_region
  go_wp2
  go_region
  go_wp2
  go_region
  go_wp2
  clear r9 r10 r11 r12 r13 r14 r15 r16 r18 r19 r20 s9 s10 s11 s12 s13 s14 s15 s16 s18 s19 s20
  go_loopw [127] (fun i wr => ∃ k : Nat, k ≤ 4 ∧ i = .int .i64 k ∧ ∃ m, wr = (w.setRow g (rep s leaps exch (wrap64 (found + f)) (wrap64 (unres + u)) (wrap64 (nam + n)) (wrap64 (hold + h)) (wrap64 (enough + e)) msgs tb)).drewN m) (fun i _ => 4 - (intOf i).toNat)
  case atStart => exact ⟨0, by omega, rfl, 11, rfl⟩
  case round =>
    obtain ⟨k, hk, rfl, m, rfl⟩ := hrel
    by_cases hlt : k < 4
    · have rk := fun s leaps exch found unres nam hold enough msgs tb => rep_21k s leaps exch found unres nam hold enough msgs tb k hlt
      have sk := fun s leaps exch found unres nam hold enough msgs tb => set_21k s leaps exch found unres nam hold enough msgs tb k hlt
      clear r25 s25
      go_wp2
      go_region
      go_wp2
      go_roundw
      case rel => exact ⟨k + 1, by omega, by go_num, m + 1, (setCell_drewN _ _ _ _).trans (by rw [sc, sk])⟩
      case measure => simp [intOf]; omega
    · have e : k = 4 := by omega
      subst e
      go_wp2
      go_region
      go_wp2
      go_end0
      exact ⟨rfl, m + 1, (setCell_drewN _ _ _ _).trans (by rw [sc, s25])⟩
end Go.Proofs.Ybulkjfa
