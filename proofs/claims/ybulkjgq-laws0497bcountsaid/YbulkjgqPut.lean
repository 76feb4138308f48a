/-
  THE CONTRACT OF put.
-/
import Derived.Test.YbulkjgqInv
import Derived.Deep.RegionLaw
import Derived.Deep.DeepCutAuto
import Derived.Deep.RegionHeld3
namespace Go.Proofs.Ybulkjgq
open Go.RowKit Go.MuLone

section
variable {ops : Array Oper} {o : Oper} {a : Act} {K : Act → World → Prop} {Q : Exit → Act → World → Prop} {E : Prop} {w0 w : World} {B g : Nat} {R : Array Value} {vr vs : Value} {nr ns : Nat}

/-- 'append(q.runs, nil)' as a step of the region. -/
theorem step_runs (hI : Inv w0 w B g R vr vs nr ns) (hn : nr ≤ 256) (hgd : o.guard = none) (ho : o.op = .call { callee := .builtin .append, args := #[.tmp 18, .tmp 20], argTypes := #[69, 69] })
    (hs : a.eval (.tmp 18) = vr) (b : Nat) (hx : a.eval (.tmp 20) = .slice (some ⟨b, 0, none⟩) 1 1) (hb : w.heap[b]? = some (.cells #[.slice none 0 0] 90 (0, 0)))
    (h : ∀ g1 cap1 w1, Inv w0 w1 B g R (.slice (some ⟨g1, 0, none⟩) (nr + 1) cap1) vs (nr + 1) ns → w.grownBy w1 vr.ownBlock → K (a.put o.dst (.slice (some ⟨g1, 0, none⟩) (nr + 1) cap1)) w1) :
    if Region.wanted o (yielded ops a.tmps) = true then Oper.wp Yba.prog o a w K Q else E := by
  obtain ⟨i, hi, hz, hsz, hby⟩ := info_parts Yba.info90
  obtain ⟨xs, hown⟩ := hI.runs
  exact step_append_lies w hgd (.tmp 18) (.tmp 20) 69 ho B 90 i _ 1 24 Yba.underlying69 hi hz hsz hby rfl (by omega) vr nr xs hs hown ⟨b, 0, none⟩ 1 1 [.slice none 0 0] hx rfl
    (World.news_of_block (cs := #[.slice none 0 0]) hb) (by simp [Value.oneCell']) (by omega) (by unfold maxLen; omega) (by omega) hI.Bs w.heap.size rfl
    fun g1 cap1 w1 h1 h2 h3 _ => h g1 cap1 w1 (hI.runsGrown rfl h1 h2 h3) h2

/-- 'append(q.sizes, size)' as a step of the region. -/
theorem step_sizes (hI : Inv w0 w B g R vr vs nr ns) (hn : ns ≤ 256) (size : Int) (hgd : o.guard = none) (ho : o.op = .call { callee := .builtin .append, args := #[.tmp 25, .tmp 27], argTypes := #[70, 70] })
    (hs : a.eval (.tmp 25) = vs) (b : Nat) (hx : a.eval (.tmp 27) = .slice (some ⟨b, 0, none⟩) 1 1) (hb : w.heap[b]? = some (.cells #[.int .i64 size] 3 (0, 0)))
    (h : ∀ g2 cap2 w2, Inv w0 w2 B g R vr (.slice (some ⟨g2, 0, none⟩) (ns + 1) cap2) nr (ns + 1) → K (a.put o.dst (.slice (some ⟨g2, 0, none⟩) (ns + 1) cap2)) w2) :
    if Region.wanted o (yielded ops a.tmps) = true then Oper.wp Yba.prog o a w K Q else E := by
  obtain ⟨i, hi, hz, hsz, hby⟩ := info_parts Yba.info3
  obtain ⟨ys, hown⟩ := hI.sizes
  exact step_append_lies w hgd (.tmp 25) (.tmp 27) 70 ho B 3 i _ 1 8 Yba.underlying70 hi hz hsz hby rfl (by omega) vs ns ys hs hown ⟨b, 0, none⟩ 1 1 [.int .i64 size] hx rfl
    (World.news_of_block (cs := #[.int .i64 size]) hb) (by simp [Value.oneCell']) (by omega) (by unfold maxLen; omega) (by omega) hI.Bs w.heap.size rfl
    fun g2 cap2 w2 h1 h2 h3 _ => h g2 cap2 w2 (hI.sizesGrown rfl h1 h2 h3)
end

theorem carryB {w w1 : World} {o1 o2 : Obj} {row : Option Nat} (hg : (((w.alloc o1).alloc o2).drew).grownBy w1 row) (hne : some (w.heap.size + 1) ≠ row) : w1.heap[w.heap.size + 1]? = some o2 :=
  (hg.block (w.heap.size + 1) (by simp) hne).trans (heap_alloc2_new w o1 o2)
theorem carryC {w w1 : World} {o1 o2 : Obj} {row : Option Nat} (hg : (((w.alloc o1).alloc o2).drew).grownBy w1 row) (hne : some w.heap.size ≠ row) : w1.heap[w.heap.size]? = some o1 :=
  (hg.block w.heap.size (by simp; omega) hne).trans (heap_alloc2_old w o1 o2)

set_option maxRecDepth 100000 in
set_option maxHeartbeats 4000000 in
/-- put of a nil run: runs and sizes grow by one each; the Cond has been used. ITS STATEMENT 'q.runs, q.sizes = append(..), append(..)' LEAVES ITS ORDER OPEN: forty orders, all of which come to this; the two appends in new or old memory, as the tape says. -/
theorem put_here {w0 X : World} {B g : Nat} {L chk vr vs : Value} {held limit : Int} {cl fa : Bool} {nr ns : Nat}
    (hI : Inv w0 X B g (qrow L chk vr vs 0 held limit cl fa) vr vs nr ns) (hk : chk = .int .u64 0 ∨ chk = self g) (hnr : nr ≤ 256) (hns : ns ≤ 256) (size : Int) :
    Calls Yba.prog 20 #[.pointer (some ⟨g, 0, none⟩), .slice none 0 0, .int .i64 size] X fun e w' => e = .returned (.tuple #[]) ∧
      ∃ vr' vs', Inv w0 w' B g (qrow L (self g) vr' vs' 0 held limit cl fa) vr' vs' (nr + 1) (ns + 1) := by
  have A := hI.rowAt
  rw [← hI.same]
  have HK : Hid (chk = .int .u64 0 ∨ chk = self g) := hk
  clear hk
  go_enter_defers Yba.func20, Yba.ntmps20
  go_wp2_with fail
  refine (lock_row g L chk vr vs held limit cl fa X A).mono ?_
  rintro e w' ⟨rfl, rfl⟩
  have hJ := hI.setRow (qrow L chk vr vs 1 held limit cl fa)
  clear A hI
  generalize X.setRow g (qrow L chk vr vs 1 held limit cl fa) = w at hJ ⊢
  go_wp2_with fail
  have c9 : w.cell? ⟨g, 9, none⟩ = some vr := (hJ.cell 9).trans (q_9 _ _ _ _ _ _ _ _ _)
  have c10 : w.cell? ⟨g, 10, none⟩ = some vs := (hJ.cell 10).trans (q_10 _ _ _ _ _ _ _ _ _)
  have hglt := hJ.glt
  have hneA : some w.heap.size ≠ vr.ownBlock := fun e => by obtain ⟨xs, hx⟩ := hJ.runs; have := (own_there hx _ e.symm).2; omega
  have hneB : some (w.heap.size + 1) ≠ vr.ownBlock := fun e => by obtain ⟨xs, hx⟩ := hJ.runs; have := (own_there hx _ e.symm).2; omega
  have HA : Hid (some w.heap.size ≠ vr.ownBlock) := hneA
  have HB : Hid (some (w.heap.size + 1) ≠ vr.ownBlock) := hneB
  clear hneA hneB
  go_cut [] from 13 to 32 (fun wx => ∃ g1 cap1 g2 cap2 w2, Inv w0 w2 B g (qrow L chk vr vs 1 held limit cl fa) (.slice (some ⟨g1, 0, none⟩) (nr + 1) cap1) (.slice (some ⟨g2, 0, none⟩) (ns + 1) cap2) (nr + 1) (ns + 1) ∧
    wx = (w2.setCell ⟨g, 9, none⟩ (.slice (some ⟨g1, 0, none⟩) (nr + 1) cap1)).setCell ⟨g, 10, none⟩ (.slice (some ⟨g2, 0, none⟩) (ns + 1) cap2))
  case first =>
    refine wp_region_noPanic ?_
    go_region_law ((first
      | (refine step_runs (w0 := w0) (B := B) (g := g) (R := qrow L chk vr vs 1 held limit cl fa) (vr := vr) (vs := vs) (nr := nr) (ns := ns) ?_ hnr rfl rfl rfl _ rfl ?_ ?_
         · first | exact (hJ.alloc _).drew | exact ((hJ.alloc _).alloc _).drew
         · first | exact heap_alloc_new w _ | exact heap_alloc2_new w _ _ | exact heap_alloc2_old w _ _
         intro g1 cap1 w1 hI1 hgrow1
         have d10 : w1.cell? ⟨g, 10, none⟩ = some vs := (hI1.cell 10).trans (q_10 _ _ _ _ _ _ _ _ _)
         have dglt := hI1.glt
         first | have hb2 := carryB (o2 := .cells #[.int .i64 size] 3) hgrow1 HB.out | have hb2 := carryC (o1 := .cells #[.int .i64 size] 3) hgrow1 HA.out | skip)
      | (refine step_sizes (w0 := w0) (B := B) (g := g) (R := qrow L chk vr vs 1 held limit cl fa) (vr := .slice (some ⟨g1, 0, none⟩) (nr + 1) cap1) (vs := vs) (nr := nr + 1) (ns := ns) ?_ hns size rfl rfl rfl _ rfl ?_ ?_
         · first | exact hI1 | exact hI1.alloc _
         · first | exact hb2 | exact heap_alloc_new w1 _
         intro g2 cap2 w2 hI2
         have e9 : w2.cell? ⟨g, 9, none⟩ = some vr := (hI2.cell 9).trans (q_9 _ _ _ _ _ _ _ _ _)
         have e10 : w2.cell? ⟨g, 10, none⟩ = some vs := (hI2.cell 10).trans (q_10 _ _ _ _ _ _ _ _ _)
         have f9 := hI2.frozen 9
         have f10 := hI2.frozen 10
         have eglt := hI2.glt)))
    all_goals (refine NoPanic.normal ?_; go_wp2_with fail; go_meet; exact ⟨g1, cap1, g2, cap2, w2, hI2, rfl⟩)
  case rest =>
    obtain ⟨g1, cap1, g2, cap2, w2, hI2, rfl⟩ := hcut
    have A2 := hI2.rowAt
    have hI3 := hI2.setRow (qrow L (self g) (.slice (some ⟨g1, 0, none⟩) (nr + 1) cap1) (.slice (some ⟨g2, 0, none⟩) (ns + 1) cap2) 0 held limit cl fa)
    have hw : (w2.setCell ⟨g, 9, none⟩ (.slice (some ⟨g1, 0, none⟩) (nr + 1) cap1)).setCell ⟨g, 10, none⟩ (.slice (some ⟨g2, 0, none⟩) (ns + 1) cap2) =
        w2.setRow g (qrow L chk (.slice (some ⟨g1, 0, none⟩) (nr + 1) cap1) (.slice (some ⟨g2, 0, none⟩) (ns + 1) cap2) 1 held limit cl fa) := by
      rw [← hI2.same, A2.sc, s_9, A2.sc, s_10, setRow_setRow]
    rw [hw]
    clear hw hI2 hJ c9 c10 hglt HA HB
    go_wp2_with fail
    refine (bcast_row g L chk _ _ 1 held limit cl fa w2 A2 HK.out).mono ?_
    rintro e w' ⟨rfl, rfl⟩
    go_wp2
    refine leaves_cons (f := 14) (args := #[.pointer (some ⟨g, 0, none⟩)]) (by simp) (by simp [go_sem]) ?_
    refine (unlock_deferred Yba.muLib ⟨g, 0, none⟩ .returning _ ((A2.cs _ _).trans (q_0 _ _ _ _ _ _ _ _ _)) (A2.fz _ _)).mono ?_
    rintro e u' w'' ⟨rfl, rfl, rfl⟩
    exact ⟨_, results_none rfl _ _ _, rfl, _, _, by rw [A2.sc, s_0]; exact hI3⟩
end Go.Proofs.Ybulkjgq
