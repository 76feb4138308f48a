/-
  THE SHELL OF A PROOF OF 'Rows.LawS0494CAfterPopsSaid' ('example.com/jumpmark/jumpmark/internal/sim.LawS0494CAfterPops'), WRITTEN BY PROGRAM (proof-skeleton.mjs, third state) off the guide's own print for that function. Not trusted: Lean checks it.
  Its hole, the walk, is filled by hand; all else is the guide's template at this function's number and types.
-/
import Derived.Test.YbulkjfaRows
import Derived.WalkKit
import Derived.ProofKit
import Derived.OpenShut
import Derived.ShutString
import Derived.ChangeOld
import Derived.Below
import Derived.Test.YbulkjfaPop
import Derived.WalkSmall
import Derived.Great.BuildSlice
namespace Go.Proofs.Ybulkjfa.lawS0494CAfterPops
open Go.ChangeShapes Go.WideShapes Go.ChangeAt Go.RowKit
open Go.ChangeMaps (open_string shut_string)
set_option linter.unusedVariables false

theorem own : ownKnob Yba.prog.godebug = none := by kernel_rfl
theorem laidOut : laidOutB Yba.prog = true := by kernel_rfl

/-- WHAT THE WALK IS TOLD OF A SLICE OF INTEGERS THAT CAME IN: it is nil; or it leads to a row of 'cap' cells, the numbers 'zs' (the first 'len' are its elements, the rest its spare room), each fitting its kind. -/
def IsRow (k : IntKind) (w : World) (a : Option Addr) (len cap : Nat) (zs : List Int) : Prop :=
  (a = none ∧ len = 0 ∧ cap = 0 ∧ zs = []) ∨
  ∃ x, a = some x ∧ len ≤ cap ∧ cap ≤ maxLen ∧ zs.length = cap ∧ (∀ i, i < zs.length → w.cell? (x.add i) = some (.int k (zs.getD i 0))) ∧ ∀ n ∈ zs, (Lit.int k n).wf = true

/-- A slice that came in and holds an element: where it lies, and what it holds. -/
theorem row_open {w : World} {a : Option Addr} {len cap : Nat} {zs : List Int} (h : IsRow .i64 w a len cap zs) (h0 : 0 < len) :
    ∃ b off, a = some ⟨b, off, none⟩ ∧ b < w.heap.size ∧ ∀ j, j < len → w.cell? ⟨b, off + j, none⟩ = some (.int .i64 (zs.getD j 0)) := by
  rcases h with ⟨_, h, _⟩ | ⟨x, rfl, h1, _, h2, hc, _⟩
  · omega
  · obtain ⟨b, off, spot⟩ := x
    have hspot : spot = none := by simpa [Addr.add] using World.cell?_spot (hc 0 (by omega))
    subst hspot
    have hcell : ∀ j, j < len → w.cell? ⟨b, off + j, none⟩ = some (.int .i64 (zs.getD j 0)) := fun j hj => by rw [← add_plain]; exact hc j (by omega)
    exact ⟨b, off, rfl, block_lt_of_cell (hcell 0 h0), hcell⟩

/-- What the row holds after k pops. -/
def fromK (zs : List Int) (n k : Nat) : Nat → Int := fun j => if k ≤ j then upTo zs n j else 0
theorem fromK_zero (zs : List Int) (n : Nat) : fromK zs n 0 = upTo zs n := by funext j; simp [fromK]
theorem fromK_at (zs : List Int) (n k : Nat) (h : k < n) : fromK zs n k k = zs.getD k 0 := by simp [fromK, upTo, h]
theorem fromK_succ (zs : List Int) (n k : Nat) : upd (fromK zs n k) k 0 = fromK zs n (k + 1) := by
  funext j
  unfold upd fromK
  by_cases h : j = k
  · subst h; simp [show ¬ j + 1 ≤ j by omega]
  · by_cases h' : k ≤ j
    · simp [h, h', show k + 1 ≤ j by omega]
    · simp [h, h', show ¬ k + 1 ≤ j by omega]
theorem act_0 (x : Int) : (actCells x)[0]? = some (.int .i64 x) := rfl
theorem act_one (x : Int) : (actCells x).all (·.oneCell') = true := by simp [actCells, Value.oneCell']

/-! ### STEP 1: THE WALK: the Go text returns true, AND WRITES NOTHING THAT WAS THERE: 'Below w.heap.size w w'' (Derived/Below.lean: '.refl', '.alloc', '.drew', '.setCell' at a new block, '.trans'). Open each 'IsRow' by 'rcases' AHEAD of 'go_enter'; part every test ahead of the walk. -/
theorem walk (a0 : Option Addr) (len0 cap0 : Nat) (z0 : List Int) (a1 : Int) (w : World) (w0 : IsRow .i64 w a0 len0 cap0 z0) (w1 : (Lit.int .u64 a1).wf = true) :
    Calls Yba.prog 7 #[.slice a0 len0 cap0, .int .u64 a1] w fun e w' => e = .returned (.bool true) ∧ Below w.heap.size w w' := by
  by_cases hbig : 1024 < (len0 : Int)
  · go_enter Yba.func7, Yba.ntmps7
    go_wp2
    go_ret
    exact ⟨rfl, Below.refl _ _⟩
  obtain ⟨l1, u1⟩ := bounds_u64 w1
  clear w1
  have hn : len0 ≤ 1024 := by omega
  rcases Nat.eq_zero_or_pos len0 with h0 | h0
  · subst h0
    clear w0 hbig
    go_enter Yba.func7, Yba.ntmps7
    go_wp2_with fail
    refine (build_none a0 cap0 w).mono ?_
    rintro e w' ⟨rfl, rfl⟩
    go_wp2_with fail
    go_loopw [7] (fun i wr => i = .int .i64 0 ∧ wr = (w.alloc (.cells (rowOf 0 (upTo [] 0)) 49)).alloc (.cells #[.int .i64 0, .slice (some ⟨w.heap.size, 0, none⟩) 0 0, .int .i64 0] 40)) (fun _ _ => 0)
    case atStart => exact ⟨rfl, rfl⟩
    case round =>
      obtain ⟨rfl, rfl⟩ := hrel
      go_wp2_with fail
      refine (first_end (w.heap.size + 1) w.heap.size 0 _ (by omega) (by simp) (by simp)).mono ?_
      rintro e w' ⟨rfl, m, rfl⟩
      go_wp2
      go_ret
      exact ⟨rfl, below_drewN (((Below.refl _ _).alloc (Nat.le_refl _) _).alloc (by simp) _) _⟩
  obtain ⟨b, off, rfl, hb, hc⟩ := row_open w0 h0
  clear w0
  obtain ⟨H, hH⟩ : ∃ H : Nat, a1 % ((len0 : Int) + 1) = (H : Int) := ⟨(a1 % ((len0 : Int) + 1)).toNat, by have := Int.emod_nonneg a1 (show (len0 : Int) + 1 ≠ 0 by omega); omega⟩
  have hle : H ≤ len0 := by have := Int.emod_lt_of_pos a1 (show (0 : Int) < (len0 : Int) + 1 by omega); omega
  go_enter Yba.func7, Yba.ntmps7
  go_wp2_with fail
  refine (build_some b off len0 cap0 z0 w hn hb hc).mono ?_
  rintro e w' ⟨rfl, rfl⟩
  have hc' : Hid (∀ j, j < len0 → w.cell? ⟨b, off + j, none⟩ = some (.int .i64 (z0.getD j 0))) := hc
  clear hc
  go_wp2_with fail
  go_loopw [7] (fun i wr => ∃ k : Nat, k ≤ H ∧ i = .int .i64 k ∧ wr.cell? ⟨w.heap.size + 1, 1, none⟩ = some (.slice (some ⟨w.heap.size, 0, none⟩) len0 len0) ∧ wr.cell? ⟨w.heap.size + 1, 2, none⟩ = some (.int .i64 (k : Int)) ∧
      wr.frozen? ⟨w.heap.size + 1, 2, none⟩ = false ∧ wr.heap[w.heap.size]? = some (.cells (rowOf len0 (fromK z0 len0 k)) 49 (0, 0)) ∧ Below w.heap.size w wr ∧ w.heap.size + 2 ≤ wr.heap.size) (fun i _ => H - (intOf i).toNat)
  case atStart => exact ⟨0, Nat.zero_le _, rfl, by simp, by simp, by simp, by rw [fromK_zero]; exact heap_alloc2_old w _ _, ((Below.refl _ _).alloc (Nat.le_refl _) _).alloc (by simp) _, by simp⟩
  case round =>
    obtain ⟨k, hk, rfl, c1, c2, fg, hrow, hbl, hsz⟩ := hrel
    by_cases hlt : k < H
    · go_wp2_with fail
      refine (pop_here w.heap.size (w.heap.size + 1) w.heap.size len0 k (fromK z0 len0 k) _ hn (by omega) (by omega) (by omega) (by omega) (Nat.le_refl _) c1 c2 fg hrow).mono ?_
      rintro e w1 ⟨rfl, c1', c2', fg', hrow', hbl'⟩
      obtain ⟨x, hx⟩ : ∃ x, x = fromK z0 len0 k k := ⟨_, rfl⟩
      rw [← hx]
      have hcx : w1.cell? ⟨b, off + k, none⟩ = some (.int .i64 x) := by
        rw [(hbl.trans hbl').cell (p := ⟨b, off + k, none⟩) hb, hc'.out k (by omega), hx, fromK_at _ _ _ (by omega)]
      rw [fromK_succ] at hrow'
      have HR : Hid (w1.cell? ⟨w.heap.size + 1, 1, none⟩ = some (.slice (some ⟨w.heap.size, 0, none⟩) len0 len0) ∧ w1.cell? ⟨w.heap.size + 1, 2, none⟩ = some (.int .i64 ((k : Int) + 1)) ∧ w1.frozen? ⟨w.heap.size + 1, 2, none⟩ = false ∧
        w1.heap[w.heap.size]? = some (.cells (rowOf len0 (fromK z0 len0 (k + 1))) 49 (0, 0)) ∧ Below w.heap.size w w1 ∧ w.heap.size + 2 ≤ w1.heap.size) := ⟨c1', c2', fg', hrow', hbl.trans hbl', by have := hbl'.size; omega⟩
      clear hx c1 c2 fg hrow hbl hsz c1' c2' fg' hrow' hbl'
      have hb1 : b < w1.heap.size := by have := HR.out.2.2.2.2.2; omega
      have ha0 := act_0
      have hkl : (k : Int) < (len0 : Int) := by omega
      go_wp2_with (first
        | (refine wpList_store_rowTo rfl 49 _ _ rfl rfl w1.heap.size (actCells x) rfl rfl 49 _ (heap_alloc_last w1 _) (by kernel_rfl) rfl (act_one x) ?_; rw [World.setRow_alloc_new])
        | fail)
      go_quiet (fail)
      go_wp2
      go_roundw
      case rel =>
        obtain ⟨e1, e2, e3, e4, e5, e6⟩ := HR.out
        exact ⟨k + 1, by omega, by go_num, by rw [World.cell?_drewN, World.cell?_alloc_past _ _ _ (by show w.heap.size + 1 < _; omega)]; exact e1,
          by rw [World.cell?_drewN, World.cell?_alloc_past _ _ _ (by show w.heap.size + 1 < _; omega)]; rw [e2]; simp,
          by rw [World.frozen?_drewN, frozen?_alloc_cells]; exact e3, by show (w1.alloc _).heap[w.heap.size]? = _; rw [Below.heap_alloc _ _ _ (by omega)]; exact e4, below_drewN (e5.alloc (by omega) _) _, by simp; omega⟩
      case measure => simp [intOf]; omega
    · have hkH : k = H := by omega
      subst hkH
      rcases Nat.lt_or_eq_of_le hle with hl | hl
      · obtain ⟨x, hx⟩ : ∃ x, x = fromK z0 len0 k k := ⟨_, rfl⟩
        have hcx : wr.cell? ⟨b, off + k, none⟩ = some (.int .i64 x) := by
          rw [hbl.cell (p := ⟨b, off + k, none⟩) hb, hc'.out k hl, hx, fromK_at _ _ _ hl]
        have hcr : wr.cell? ⟨w.heap.size, k * 8, none⟩ = some (.int .i64 x) := by
          rw [cell_of_row wr _ _ _ 49 (0, 0) hrow, rowOf_head _ _ _ hl, hx]
        have HB : Hid (Below w.heap.size w wr) := hbl
        have hne : ((k : Int) == (len0 : Int)) = false := beq_eq_false_iff_ne.2 (by omega)
        have hkl : (k : Int) < (len0 : Int) := by omega
        clear hx hrow hbl
        go_wp2_with fail
        refine (first_at (w.heap.size + 1) w.heap.size len0 k x _ hn hl c1 c2 hcr).mono ?_
        rintro e w' ⟨rfl, m, rfl⟩
        clear hcr c1 c2 fg
        go_wp2
        go_ret
        exact ⟨rfl, below_drewN HB.out _⟩
      · subst hl
        have HB : Hid (Below w.heap.size w wr) := hbl
        clear hrow hbl
        go_wp2_with fail
        refine (first_end (w.heap.size + 1) w.heap.size k _ hn c1 c2).mono ?_
        rintro e w' ⟨rfl, m, rfl⟩
        clear c1 c2 fg
        go_wp2
        go_ret
        exact ⟨rfl, below_drewN HB.out _⟩

/-! ### THE ROW's STEP: WRITTEN OUT: LEAVE IT -/
set_option maxRecDepth 100000 in
theorem lifted (os : Os) (started : os.Started) (H : Type) (enc : TypeId × Value → H) :
    ReturnsInHanded {} Yba.checked os 7 .any (Rows.lawS0494CAfterPopsSpec.pre6 enc Yba.prog Yba.f7 Rows.lawS0494CAfterPopsRow.domain false) (Rows.lawS0494CAfterPopsSpec.post enc Yba.prog Yba.f7 false true false false) := by
  refine returnsInHanded_of_change (C := Yba.checked) own started (by kernel_rfl) Yba.func7
    (ChangeSpec.witness6 (enc := enc) (C := Yba.checked) false ⟨#[], #[.slice none 0 0, .int .u64 0], []⟩ 8 (by kernel_rfl) (by kernel_rfl) (by kernel_rfl) (by kernel_rfl)) ?_
  intro W base args ds gs before hval0 hW hcnd _
  have hval : ∀ (j : Nat) t v, Yba.f7.params[j]? = some t → args[j]? = some v → Value.okWide Yba.prog W .any base t v := hval0
  have hW' := hW
  obtain ⟨p, q, hA0, hV, rfl, hfz, hnd⟩ := hW
  have hA : DataW.TrodAll enc Yba.prog W 0 (fun _ => true) true Yba.f7.params.toList args.toList ds p := hA0
  rw [Yba.params7] at hA hval
  obtain ⟨v0, vs0, d0, ds0, p0, q0, hargs, rfl, rfl, h0, r0⟩ := trodAll_cons hA
  obtain ⟨v1, vs1, d1, ds1, p1, q1, rfl, rfl, rfl, h1, r1⟩ := trodAll_cons r0
  obtain ⟨rfl, rfl, rfl⟩ := trodAll_nil r1
  obtain rfl : args = #[v0, v1] := by cases args; simp_all
  obtain ⟨rfl, rfl⟩ := trodVars_none hV
  obtain ⟨a0, len0, cap0, rfl⟩ := okWide_slice Yba.underlying34 (hval 0 34 v0 rfl rfl)
  have k0 := h0
  have lt0 : ∀ x ∈ p0, x.block < W.heap.size := by obtain ⟨m, hm⟩ := k0; exact DataW.trod_lt m _ _ _ hm
  obtain ⟨z0, w0⟩ : ∃ zs, IsRow .i64 W a0 len0 cap0 zs := by
    obtain ⟨fuel, hf⟩ := h0
    rcases open_ints Yba.underlying34 Yba.underlying2 (by kernel_rfl) hf with ⟨hcs, _⟩ | ⟨x, l, c, zs, hcs, _, hl, hm, hz, _, hcell, hwz⟩
    · simp [Value.cells] at hcs
      obtain ⟨rfl, rfl, rfl⟩ := hcs
      exact ⟨[], .inl ⟨rfl, rfl, rfl, rfl⟩⟩
    · simp [Value.cells] at hcs
      obtain ⟨rfl, rfl, rfl⟩ := hcs
      exact ⟨zs, .inr ⟨_, rfl, hl, hm, by simpa using hz, hcell, hwz⟩⟩
  obtain ⟨a1, rfl, rfl, rfl, w1⟩ := open_int Yba.underlying35 (hval 1 35 v1 rfl rfl) h1
  clear hA0 hval0
  refine (walk a0 len0 cap0 z0 a1 W w0 w1).mono fun e W' ⟨he, bel⟩ => ?_
  subst he
  exact ⟨_, rfl, _, _, _, [], _, [], hW', trodAll_mk1 (shut_bool Yba.underlying4 _), (trodAll_cons_mk (Below.trod laidOut (by kernel_rfl) (of_decide_eq_true (by kernel_rfl)) k0 bel lt0) (trodAll_cons_mk (shut_int Yba.underlying35 w1) trodAll_mk0)), rfl, bel.frame _, fun h => by cases h⟩

theorem over : Rows.lawS0494CAfterPopsRow.holds Yba.pinned (OpenSpec.ofChange Rows.lawS0494CAfterPopsSpec) :=
  OpenClaim.holds_of_wide 7 Yba.f7 rfl rfl rfl rfl rfl rfl rfl ⟨rfl, rfl, rfl, rfl, rfl⟩ rfl rfl rfl rfl rfl (by kernel_rfl) Yba.func7 (by kernel_rfl)
    (of_decide_eq_true (by kernel_rfl)) (by unfold Func.isWrapper; first | (rw [if_pos (by decide +kernel)]; kernel_rfl) | (rw [if_neg (by decide +kernel)]; exact ⟨rfl, rfl⟩))
    (fun os started H enc _ => lifted os started H enc)

/-- ████ THE STATEMENT ████ -/
theorem proved : Rows.LawS0494CAfterPopsSaid := over
end Go.Proofs.Ybulkjfa.lawS0494CAfterPops
