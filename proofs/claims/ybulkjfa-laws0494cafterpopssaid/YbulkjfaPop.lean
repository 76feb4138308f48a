/-
  THE CONTRACT OF '(*queue).pop'.
-/
import Derived.Test.YbulkjfaQueue
import Derived.Laws.CopyRow
import Derived.WalkSmall
namespace Go.Proofs.Ybulkjfa
open Go.RowKit

/-- Cell i of action h, behind its time. -/
theorem rowAt_off (f : Nat → Int) (h i : Nat) (hi : i < 8) : rowAt f (h * 8 + i) = (actCells (f h)).getD i undef := by
  unfold rowAt
  rw [show (h * 8 + i) / 8 = h by omega, show (h * 8 + i) % 8 = i by omega]
theorem rowOf_off (n : Nat) (f : Nat → Int) (h i : Nat) (hh : h < n) (hi : i < 8) : (rowOf n f)[h * 8 + i]? = some ((actCells (f h)).getD i undef) := by
  rw [rowOf_get n f _ (by omega), rowAt_off f h i hi]
/-- What lies there is stored there: nothing turns. -/
theorem set_same (R : Array Value) (i : Nat) (v : Value) (h : R[i]? = some v) : R.setIfInBounds i v = R := by
  apply Array.ext_getElem?
  intro j
  rw [Array.getElem?_setIfInBounds]
  by_cases e : i = j
  · subst e
    have hi : i < R.size := (Array.getElem?_eq_some_iff.1 h).1
    rw [if_pos rfl, if_pos hi, h]
  · rw [if_neg e]

theorem two_new (X : World) (A B : Obj) (k : Nat) (hk : k = X.heap.size) : ((X.alloc A).alloc B).heap[k]? = some A := by
  subst hk
  exact heap_alloc2_old X A B

set_option maxHeartbeats 1000000 in
/-- '(*queue).pop' with head at an action: it is handed back; its place is wiped; head moves on. -/
theorem pop_row (g r n h : Nat) (f : Nat → Int) (cur : Array Value) (w : World) (hn : n ≤ 1024) (hh : h < n) (hgr : g ≠ r) (hg : g < w.heap.size) (hr : r < w.heap.size)
    (c1 : w.cell? ⟨g, 1, none⟩ = some (.slice (some ⟨r, 0, none⟩) n n)) (c2 : w.cell? ⟨g, 2, none⟩ = some (.int .i64 (h : Int))) (fg : w.frozen? ⟨g, 2, none⟩ = false)
    (hrow : w.heap[r]? = some (.cells cur 49 (0, 0))) :
    Calls Yba.prog 13 #[.pointer (some ⟨g, 0, none⟩)] (w.setRow r (rowOf n f)) fun e w' => e = .returned (.agg (actCells (f h))) ∧
      ∃ A B m, w' = ((((w.setRow r (rowOf n (upd f h 0))).setCell ⟨g, 2, none⟩ (.int .i64 ((h : Int) + 1))).alloc A).alloc B).drewN m := by
  have cs : ∀ R i, (w.setRow r R).cell? ⟨r, i, none⟩ = R[i]? := fun R i => cell_setRow_same w r i _ R 49 (0, 0) hrow
  have co : ∀ R i, (w.setRow r R).cell? ⟨g, i, none⟩ = w.cell? ⟨g, i, none⟩ := fun R i => cell_setRow_other w r R _ hgr
  have fz : ∀ R i, (w.setRow r R).frozen? ⟨r, i, none⟩ = false := fun R i => frozen_of_row _ r i R 49 (setRow_heap w r _ R 49 (0, 0) hrow)
  have fo : ∀ R, (w.setRow r R).frozen? ⟨g, 2, none⟩ = false := fun R => by rw [← fg]; exact World.frozen?_of_block (setRow_other w r g R hgr)
  have sc : ∀ R i v, (w.setRow r R).setCell ⟨r, i, none⟩ v = w.setRow r (R.setIfInBounds i v) := fun R i v => by rw [setCell_eq_setRow _ r i R 49 (0, 0) v (setRow_heap w r _ R 49 (0, 0) hrow), setRow_setRow]
  have sz : ∀ R, (w.setRow r R).heap.size = w.heap.size := fun R => setRow_size w r R
  clear hrow fg
  obtain ⟨x, hx⟩ : ∃ x, x = f h := ⟨_, rfl⟩
  rw [← hx]
  have q0 : (rowOf n f)[h * 8]? = some (.int .i64 x) := by rw [hx]; exact rowOf_head n f h hh
  have q1 : ∀ f, (rowOf n f)[h * 8 + 1]? = some (.int .i64 0) := fun f => rowOf_off n f h 1 hh (by decide)
  have q2 : ∀ f, (rowOf n f)[h * 8 + 2]? = some (.int .i32 0) := fun f => rowOf_off n f h 2 hh (by decide)
  have q3 : ∀ f, (rowOf n f)[h * 8 + 3]? = some (.int .u64 0) := fun f => rowOf_off n f h 3 hh (by decide)
  have q4 : ∀ f, (rowOf n f)[h * 8 + 4]? = some .nilFunc := fun f => rowOf_off n f h 4 hh (by decide)
  have q5 : ∀ f, (rowOf n f)[h * 8 + 5]? = some (.int .i32 0) := fun f => rowOf_off n f h 5 hh (by decide)
  have q6 : ∀ f, (rowOf n f)[h * 8 + 6]? = some (.slice none 0 0) := fun f => rowOf_off n f h 6 hh (by decide)
  have q7 : ∀ f, (rowOf n f)[h * 8 + 7]? = some (.int .i64 0) := fun f => rowOf_off n f h 7 hh (by decide)
  have p0 : (rowOf n f).setIfInBounds (h * 8) (.int .i64 0) = rowOf n (upd f h 0) := rowOf_set n f h 0
  have p1 := fun f => set_same (rowOf n f) _ _ (q1 f)
  have p2 := fun f => set_same (rowOf n f) _ _ (q2 f)
  have p3 := fun f => set_same (rowOf n f) _ _ (q3 f)
  have p4 := fun f => set_same (rowOf n f) _ _ (q4 f)
  have p5 := fun f => set_same (rowOf n f) _ _ (q5 f)
  have p6 := fun f => set_same (rowOf n f) _ _ (q6 f)
  have p7 := fun f => set_same (rowOf n f) _ _ (q7 f)
  have HX : Hid (x = f h) := hx
  clear hx
  go_enter Yba.func13, Yba.ntmps13
  go_wp2
  go_region
  go_wp2
  go_region
  go_wp2
  exact bodyPost_ret (results_cell_row (p := 2) (ty := 49) rfl _ _ w.heap.size 49 (actCells x) (0, 0) _ rfl
    (two_new ((w.setRow r (rowOf n (upd f h 0))).setCell ⟨g, 2, none⟩ (.int .i64 ((h : Int) + 1))) _ _ w.heap.size (by simp)) Yba.underlying49 rfl (by kernel_rfl)) rfl ⟨rfl, _, _, 2, rfl⟩

/-- '(*queue).pop', the world as it stands; what is left said by facts. -/
theorem pop_here (B g r n h : Nat) (f : Nat → Int) (w : World) (hn : n ≤ 1024) (hh : h < n) (hgr : g ≠ r) (hg : g < w.heap.size) (hBg : B ≤ g) (hBr : B ≤ r)
    (c1 : w.cell? ⟨g, 1, none⟩ = some (.slice (some ⟨r, 0, none⟩) n n)) (c2 : w.cell? ⟨g, 2, none⟩ = some (.int .i64 (h : Int))) (fg : w.frozen? ⟨g, 2, none⟩ = false)
    (hrow : w.heap[r]? = some (.cells (rowOf n f) 49 (0, 0))) :
    Calls Yba.prog 13 #[.pointer (some ⟨g, 0, none⟩)] w fun e w' => e = .returned (.agg (actCells (f h))) ∧
      w'.cell? ⟨g, 1, none⟩ = some (.slice (some ⟨r, 0, none⟩) n n) ∧ w'.cell? ⟨g, 2, none⟩ = some (.int .i64 ((h : Int) + 1)) ∧ w'.frozen? ⟨g, 2, none⟩ = false ∧
      w'.heap[r]? = some (.cells (rowOf n (upd f h 0)) 49 (0, 0)) ∧ Below B w w' := by
  have hr : r < w.heap.size := (Array.getElem?_eq_some_iff.1 hrow).1
  have hp := pop_row g r n h f _ w hn hh hgr hg hr c1 c2 fg hrow
  rw [setRow_self w r _ 49 (0, 0) hrow] at hp
  refine hp.mono ?_
  rintro e w' ⟨rfl, A, C, m, rfl⟩
  have e1 : (w.setRow r (rowOf n (upd f h 0))).cell? ⟨g, 1, none⟩ = w.cell? ⟨g, 1, none⟩ := cell_setRow_other w r _ _ hgr
  have e2 : (w.setRow r (rowOf n (upd f h 0))).cell? ⟨g, 2, none⟩ = w.cell? ⟨g, 2, none⟩ := cell_setRow_other w r _ _ hgr
  have e3 : (w.setRow r (rowOf n (upd f h 0))).frozen? ⟨g, 2, none⟩ = w.frozen? ⟨g, 2, none⟩ := World.frozen?_of_block (setRow_other w r g _ hgr)
  refine ⟨rfl, ?_, ?_, ?_, ?_, ?_⟩
  · rw [World.cell?_drewN, World.cell?_alloc_past _ _ _ (by simp; omega), World.cell?_alloc_past _ _ _ (by simp; omega), World.cell?_setCell_other _ _ _ _ (by simp), e1, c1]
  · rw [World.cell?_drewN, World.cell?_alloc_past _ _ _ (by simp; omega), World.cell?_alloc_past _ _ _ (by simp; omega), World.cell?_setCell_same _ _ _ (e2.trans c2)]
  · have h1 : ((((w.setRow r (rowOf n (upd f h 0))).setCell ⟨g, 2, none⟩ (.int .i64 ((h : Int) + 1))).alloc A).alloc C).frozen? ⟨g, 2, none⟩ = ((w.setRow r (rowOf n (upd f h 0))).setCell ⟨g, 2, none⟩ (.int .i64 ((h : Int) + 1))).frozen? ⟨g, 2, none⟩ := by
      refine World.frozen?_of_block ?_
      rw [Below.heap_alloc _ _ _ (by simp; omega), Below.heap_alloc _ _ _ (by simp; omega)]
    rw [World.frozen?_drewN, h1]
    simp [e3, fg]
  · show ((((w.setRow r (rowOf n (upd f h 0))).setCell ⟨g, 2, none⟩ (.int .i64 ((h : Int) + 1))).alloc A).alloc C).heap[r]? = _
    rw [Below.heap_alloc _ _ _ (by simp; omega), Below.heap_alloc _ _ _ (by simp; omega), Below.heap_setCell _ _ _ _ (fun e => hgr e.symm), setRow_heap w r _ _ 49 (0, 0) hrow]
  · have hb : Below B w (w.setRow r (rowOf n (upd f h 0))) := ⟨rfl, rfl, rfl, by simp, fun k hk => setRow_other w r k _ (by omega)⟩
    exact below_drewN (((hb.setCell (by exact hBg) _).alloc (by simp; omega) _).alloc (by simp; omega) _) m
end Go.Proofs.Ybulkjfa
