/-
  'sim.Report': TWO EQUAL ROWS COMPARE EQUAL; THE CONTRACT OF 'zzs0494bbase'; A ROW SET BENEATH A NEWER BLOCK.
-/
import Derived.Test.YbulkjfaNamed
import Derived.Great.BuildSlice
import Derived.Laws.StructEq
namespace Go.Proofs.Ybulkjfa
open Go.RowKit

section
variable {P : Program} {w : World}
theorem eqFields_step {d : Nat} {f : Field} {fs : List Field} {xs : Array Value} (v : Value) (hn : f.name ≠ "_") (hp : (part f.type xs f.offset).run P w = .ok v w)
    (he : (Op.equalIn d f.type v v).run P w = .ok true w) (hr : (Op.eqFields d xs xs fs).run P w = .ok true w) : (Op.eqFields d xs xs (f :: fs)).run P w = .ok true w := by
  simp [Op.eqFields, hn, hp, he, hr]
theorem eqFields_int {d : Nat} {f : Field} {fs : List Field} {xs : Array Value} {k k' : IntKind} (a : Int) (hn : f.name ≠ "_") (hp : (part f.type xs f.offset).run P w = .ok (.int k a) w)
    (hu : P.underlying f.type = some (.int k')) (hr : (Op.eqFields (d + 1) xs xs fs).run P w = .ok true w) : (Op.eqFields (d + 1) xs xs (f :: fs)).run P w = .ok true w :=
  eqFields_step _ hn hp (by rw [run_equalIn_int w d f.type k k' a a hu, beq_self_eq_true]) hr
theorem eqFields_string {d : Nat} {f : Field} {fs : List Field} {xs : Array Value} (s : ByteArray) (hn : f.name ≠ "_") (hp : (part f.type xs f.offset).run P w = .ok (.string s) w)
    (hu : P.underlying f.type = some .string) (hr : (Op.eqFields (d + 1) xs xs fs).run P w = .ok true w) : (Op.eqFields (d + 1) xs xs (f :: fs)).run P w = .ok true w :=
  eqFields_step _ hn hp (by rw [run_equalIn_string w d f.type s s hu, beq_self_eq_true]) hr
end

set_option maxRecDepth 100000 in
/-- A Report compares equal to itself (its two floats are 0). -/
theorem eq_rep (s : ByteArray) (leaps exch found unres nam hold enough msgs tb : Int) (w : World) :
    (binOp .eql 27 (.agg (rep s leaps exch found unres nam hold enough msgs tb)) (.agg (rep s leaps exch found unres nam hold enough msgs tb))).run Yba.prog w = .ok (.bool true) w := by
  rw [run_eql_struct, run_equalIn_struct w 9999 27 _ _ (by kernel_rfl) (by kernel_rfl)]
  simp only [Program.fieldsOf, Yba.underlying27]
  have h : (Op.eqFields (9998 + 1) (rep s leaps exch found unres nam hold enough msgs tb) (rep s leaps exch found unres nam hold enough msgs tb) (Yba.prog.fieldsOf 27).toList).run Yba.prog w = .ok true w := by
    simp only [Program.fieldsOf, Yba.underlying27]
    refine eqFields_string s (by decide) (by kernel_rfl) Yba.underlying9 ?_
    refine eqFields_string ⟨#[]⟩ (by decide) (by kernel_rfl) Yba.underlying9 ?_
    refine eqFields_int (k := .u64) 0 (by decide) (by kernel_rfl) Yba.underlying22 ?_
    refine eqFields_int (k := .i64) 0 (by decide) (by kernel_rfl) Yba.underlying3 ?_
    refine eqFields_int (k := .i64) leaps (by decide) (by kernel_rfl) Yba.underlying3 ?_
    refine eqFields_int (k := .i64) 0 (by decide) (by kernel_rfl) Yba.underlying3 ?_
    refine eqFields_int (k := .i64) 0 (by decide) (by kernel_rfl) Yba.underlying3 ?_
    refine eqFields_int (k := .i64) 0 (by decide) (by kernel_rfl) Yba.underlying3 ?_
    refine eqFields_int (k := .i64) 0 (by decide) (by kernel_rfl) Yba.underlying3 ?_
    refine eqFields_int (k := .i64) 0 (by decide) (by kernel_rfl) Yba.underlying3 ?_
    refine eqFields_int (k := .i64) 0 (by decide) (by kernel_rfl) Yba.underlying3 ?_
    refine eqFields_int (k := .i64) exch (by decide) (by kernel_rfl) Yba.underlying3 ?_
    refine eqFields_int (k := .i64) 0 (by decide) (by kernel_rfl) Yba.underlying3 ?_
    refine eqFields_int (k := .i64) found (by decide) (by kernel_rfl) Yba.underlying3 ?_
    refine eqFields_int (k := .i64) unres (by decide) (by kernel_rfl) Yba.underlying3 ?_
    refine eqFields_int (k := .i64) nam (by decide) (by kernel_rfl) Yba.underlying3 ?_
    refine eqFields_int (k := .i64) hold (by decide) (by kernel_rfl) Yba.underlying3 ?_
    refine eqFields_int (k := .i64) 0 (by decide) (by kernel_rfl) Yba.underlying3 ?_
    refine eqFields_int (k := .i64) enough (by decide) (by kernel_rfl) Yba.underlying3 ?_
    refine eqFields_int (k := .i64) 0 (by decide) (by kernel_rfl) Yba.underlying3 ?_
    refine eqFields_int (k := .i64) msgs (by decide) (by kernel_rfl) Yba.underlying3 ?_
    refine eqFields_step (.agg #[.int .i64 0, .int .i64 0, .int .i64 0, .int .i64 0]) (by decide) (by kernel_rfl) (by kernel_rfl) ?_
    refine eqFields_int (k := .i64) tb (by decide) (by kernel_rfl) Yba.underlying3 ?_
    refine eqFields_step (.float .f64 0) (by decide) (by kernel_rfl) (by kernel_rfl) ?_
    refine eqFields_step (.float .f64 0) (by decide) (by kernel_rfl) (by kernel_rfl) ?_
    refine eqFields_int (k := .i64) 0 (by decide) (by kernel_rfl) Yba.underlying3 ?_
    refine eqFields_int (k := .i64) 0 (by decide) (by kernel_rfl) Yba.underlying25 ?_
    rfl
  simp only [Program.fieldsOf, Yba.underlying27] at h
  rw [h]
  rfl

/-- 'zzs0494bbase': the Report that the laws begin with; one new block (its result's own). -/
theorem base_any (s : ByteArray) (leaps found unres nam hold enough msgs : Int) (w : World) :
    Calls Yba.prog 8 #[.string s, .int .i64 leaps, .int .i64 found, .int .i64 unres, .int .i64 nam, .int .i64 hold, .int .i64 enough, .int .i64 msgs] w fun e w' =>
      e = .returned (.agg (rep s leaps leaps found unres nam hold enough msgs msgs)) ∧ Grown w w' := by
  go_enter Yba.func8, Yba.ntmps8
  go_wp2_with (first
    | (refine wpList_buildTo rfl 27 _ rfl (some 27) rfl (rep s leaps leaps found unres nam hold enough msgs msgs) (by kernel_rfl) ?_)
    | (refine wpList_store_rowTo rfl 27 _ _ rfl rfl w.heap.size (rep s leaps leaps found unres nam hold enough msgs msgs) rfl rfl 27 _ (heap_alloc_last w _) (by kernel_rfl) rfl (rep_one _ _ _ _ _ _ _ _ _ _) ?_; rw [World.setRow_alloc_new])
    | fail)
  exact bodyPost_ret (results_cell_row (p := 16) (ty := 27) rfl _ _ w.heap.size 27 (rep s leaps leaps found unres nam hold enough msgs msgs) (0, 0) _ rfl (heap_alloc_last w _) Yba.underlying27 rfl (by kernel_rfl)) rfl
    ⟨rfl, (Grown.refl _).alloc _ _⟩

/-- A row set beneath the block that was made last. -/
theorem setRow_alloc_past (w : World) (g : Nat) (cs : Array Value) (o : Obj) (hg : g < w.heap.size) : (w.alloc o).setRow g cs = (w.setRow g cs).alloc o := by
  simp only [World.setRow, World.alloc]
  congr 1
  apply Array.ext_getElem?
  intro i
  simp only [Array.getElem?_modify, Array.getElem?_push, Array.size_modify]
  by_cases h : g = i
  · subst h
    simp [show ¬ g = w.heap.size by omega]
  · by_cases h' : i = w.heap.size
    · subst h'
      simp [show ¬ g = w.heap.size by omega]
    · simp [h, h']

/-- The second new block's row set anew. -/
theorem setRow_new2 (w : World) (o : Obj) (c c' : Array Value) (t : TypeId) : ((w.alloc o).alloc (.cells c t)).setRow (w.heap.size + 1) c' = (w.alloc o).alloc (.cells c' t) := by
  have h := World.setRow_alloc_new (w.alloc o) c c' t
  rwa [show (w.alloc o).heap.size = w.heap.size + 1 by simp] at h
/-- The first of two new blocks' row set anew. -/
theorem setRow_old2 (w : World) (o : Obj) (c c' : Array Value) (t : TypeId) : ((w.alloc (.cells c t)).alloc o).setRow w.heap.size c' = (w.alloc (.cells c' t)).alloc o := by
  rw [setRow_alloc_past _ _ _ _ (by simp), World.setRow_alloc_new]
end Go.Proofs.Ybulkjfa
