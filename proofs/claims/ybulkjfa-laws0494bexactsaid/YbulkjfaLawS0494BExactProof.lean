/-
  THE SHELL OF A PROOF OF 'Rows.LawS0494BExactSaid' ('example.com/jumpmark/jumpmark/internal/sim.LawS0494BExact'), WRITTEN BY PROGRAM (proof-skeleton.mjs) off the guide's own print for that function. Not trusted: Lean checks it.
  Its hole, the walk, is filled by hand; all else is the guide's template at this function's number and types.
-/
import Derived.Test.YbulkjfaRows
import Derived.WalkKit
import Derived.ProofKit
import Derived.OpenShut
import Derived.ShutString
import Derived.Test.YbulkjfaReport
namespace Go.Proofs.Ybulkjfa.lawS0494BExact
open Go.ChangeShapes Go.WideShapes Go.ChangeAt Go.RowKit
open Go.ChangeMaps (open_string shut_string)
set_option linter.unusedVariables false      -- a walk need not use every 'w<i>' (that an integer argument fits its kind)

set_option maxHeartbeats 800000 in
/-- The walk, its two tests decided: found, enough. -/
theorem walkTT (a0 : ByteArray) (a1 a2 a3 a4 a5 a6 a7 a8 a9 : Int) (w : World) (hh : 0 < a9) :
    Calls Yba.prog 3 #[.string a0, .int .i64 a1, .int .i64 a2, .int .i64 a3, .int .i64 a4, .int .i64 a5, .int .i64 a6, .int .i64 a7, .int .i64 a8, .int .i64 a9, .bool true] w fun e w' => e = .returned (.bool true) ∧ Grown w w' := by
  go_enter Yba.func3, Yba.ntmps3
  go_wp2_with fail
  refine (base_any a0 a1 a2 a3 a4 a5 a6 a7 w).mono ?_
  rintro e W ⟨rfl, hG⟩
  have HG : Hid (Grown w W) := hG
  clear hG
  have s13 := set_13
  have s14 := set_14
  have s15 := set_15
  have s16 := set_16
  have s18 := set_18
  have r13 := rep_13
  have r14 := rep_14
  have r15 := rep_15
  have r16 := rep_16
  have r18 := rep_18
  go_wp2_with (first
    | (refine wpList_store_rowTo rfl 27 _ _ rfl rfl W.heap.size (rep a0 a1 a1 a2 a3 a4 a5 a6 a7 a7) rfl rfl 27 _ (heap_alloc_last W _) (by kernel_rfl) rfl (rep_one _ _ _ _ _ _ _ _ _ _) ?_; rw [World.setRow_alloc_new])
    | (refine wpList_load_row rfl 27 _ rfl W.heap.size rfl 27 (rep a0 a1 a1 a2 a3 a4 a5 a6 a7 a7) (0, 0) _ (heap_alloc_last W _) Yba.underlying27 rfl (by kernel_rfl) ?_)
    | (refine wpList_store_rowTo rfl 27 _ _ rfl rfl (W.heap.size + 1) (rep a0 a1 a1 a2 a3 a4 a5 a6 a7 a7) rfl rfl 27 _ (heap_alloc2_new W _ _) (by kernel_rfl) rfl (rep_one _ _ _ _ _ _ _ _ _ _) ?_; rw [setRow_new2])
    | fail)
  clear s13 s14 s15 s16 s18 r13 r14 r15 r16 r18
  refine (named_row W.heap.size a0 a1 a1 a2 a3 a4 a5 a6 a7 a7 a8 a9 true _ (heap_alloc2_old W _ _)).mono ?_
  rintro e w' ⟨rfl, rfl⟩
  rw [setRow_old2, show fnd a9 a2 = wrap64 (a2 + 1) from by unfold fnd; rw [if_pos hh], show unr a9 a3 = a3 from by unfold unr; rw [if_pos hh], show eno true a6 = wrap64 (a6 + 1) from rfl]
  have he := eq_rep a0 a1 a1 (wrap64 (a2 + 1)) (a3) (wrap64 (a4 + a8)) (wrap64 (a5 + a9)) (wrap64 (a6 + 1)) a7 a7
  go_wp2_with (first
    | (refine wpList_load_row rfl 27 _ rfl W.heap.size rfl 27 (rep a0 a1 a1 (wrap64 (a2 + 1)) (a3) (wrap64 (a4 + a8)) (wrap64 (a5 + a9)) (wrap64 (a6 + 1)) a7 a7) (0, 0) _ (heap_alloc2_old W _ _) Yba.underlying27 rfl (by kernel_rfl) ?_)
    | (refine wpList_load_row rfl 27 _ rfl (W.heap.size + 1) rfl 27 (rep a0 a1 a1 (wrap64 (a2 + 1)) (a3) (wrap64 (a4 + a8)) (wrap64 (a5 + a9)) (wrap64 (a6 + 1)) a7 a7) (0, 0) _ (heap_alloc2_new W _ _) Yba.underlying27 rfl (by kernel_rfl) ?_)
    | fail)
  go_ret
  exact ⟨rfl, (HG.out.alloc _ _).alloc _ _⟩

set_option maxHeartbeats 800000 in
/-- The walk, its two tests decided: found, not enough. -/
theorem walkTF (a0 : ByteArray) (a1 a2 a3 a4 a5 a6 a7 a8 a9 : Int) (w : World) (hh : 0 < a9) :
    Calls Yba.prog 3 #[.string a0, .int .i64 a1, .int .i64 a2, .int .i64 a3, .int .i64 a4, .int .i64 a5, .int .i64 a6, .int .i64 a7, .int .i64 a8, .int .i64 a9, .bool false] w fun e w' => e = .returned (.bool true) ∧ Grown w w' := by
  go_enter Yba.func3, Yba.ntmps3
  go_wp2_with fail
  refine (base_any a0 a1 a2 a3 a4 a5 a6 a7 w).mono ?_
  rintro e W ⟨rfl, hG⟩
  have HG : Hid (Grown w W) := hG
  clear hG
  have s13 := set_13
  have s14 := set_14
  have s15 := set_15
  have s16 := set_16
  have s18 := set_18
  have r13 := rep_13
  have r14 := rep_14
  have r15 := rep_15
  have r16 := rep_16
  have r18 := rep_18
  go_wp2_with (first
    | (refine wpList_store_rowTo rfl 27 _ _ rfl rfl W.heap.size (rep a0 a1 a1 a2 a3 a4 a5 a6 a7 a7) rfl rfl 27 _ (heap_alloc_last W _) (by kernel_rfl) rfl (rep_one _ _ _ _ _ _ _ _ _ _) ?_; rw [World.setRow_alloc_new])
    | (refine wpList_load_row rfl 27 _ rfl W.heap.size rfl 27 (rep a0 a1 a1 a2 a3 a4 a5 a6 a7 a7) (0, 0) _ (heap_alloc_last W _) Yba.underlying27 rfl (by kernel_rfl) ?_)
    | (refine wpList_store_rowTo rfl 27 _ _ rfl rfl (W.heap.size + 1) (rep a0 a1 a1 a2 a3 a4 a5 a6 a7 a7) rfl rfl 27 _ (heap_alloc2_new W _ _) (by kernel_rfl) rfl (rep_one _ _ _ _ _ _ _ _ _ _) ?_; rw [setRow_new2])
    | fail)
  clear s13 s14 s15 s16 s18 r13 r14 r15 r16 r18
  refine (named_row W.heap.size a0 a1 a1 a2 a3 a4 a5 a6 a7 a7 a8 a9 false _ (heap_alloc2_old W _ _)).mono ?_
  rintro e w' ⟨rfl, rfl⟩
  rw [setRow_old2, show fnd a9 a2 = wrap64 (a2 + 1) from by unfold fnd; rw [if_pos hh], show unr a9 a3 = a3 from by unfold unr; rw [if_pos hh], show eno false a6 = a6 from rfl]
  have he := eq_rep a0 a1 a1 (wrap64 (a2 + 1)) (a3) (wrap64 (a4 + a8)) (wrap64 (a5 + a9)) (a6) a7 a7
  go_wp2_with (first
    | (refine wpList_load_row rfl 27 _ rfl W.heap.size rfl 27 (rep a0 a1 a1 (wrap64 (a2 + 1)) (a3) (wrap64 (a4 + a8)) (wrap64 (a5 + a9)) (a6) a7 a7) (0, 0) _ (heap_alloc2_old W _ _) Yba.underlying27 rfl (by kernel_rfl) ?_)
    | (refine wpList_load_row rfl 27 _ rfl (W.heap.size + 1) rfl 27 (rep a0 a1 a1 (wrap64 (a2 + 1)) (a3) (wrap64 (a4 + a8)) (wrap64 (a5 + a9)) (a6) a7 a7) (0, 0) _ (heap_alloc2_new W _ _) Yba.underlying27 rfl (by kernel_rfl) ?_)
    | fail)
  go_ret
  exact ⟨rfl, (HG.out.alloc _ _).alloc _ _⟩

set_option maxHeartbeats 800000 in
/-- The walk, its two tests decided: not found, enough. -/
theorem walkFT (a0 : ByteArray) (a1 a2 a3 a4 a5 a6 a7 a8 a9 : Int) (w : World) (hh : ¬ 0 < a9) :
    Calls Yba.prog 3 #[.string a0, .int .i64 a1, .int .i64 a2, .int .i64 a3, .int .i64 a4, .int .i64 a5, .int .i64 a6, .int .i64 a7, .int .i64 a8, .int .i64 a9, .bool true] w fun e w' => e = .returned (.bool true) ∧ Grown w w' := by
  go_enter Yba.func3, Yba.ntmps3
  go_wp2_with fail
  refine (base_any a0 a1 a2 a3 a4 a5 a6 a7 w).mono ?_
  rintro e W ⟨rfl, hG⟩
  have HG : Hid (Grown w W) := hG
  clear hG
  have s13 := set_13
  have s14 := set_14
  have s15 := set_15
  have s16 := set_16
  have s18 := set_18
  have r13 := rep_13
  have r14 := rep_14
  have r15 := rep_15
  have r16 := rep_16
  have r18 := rep_18
  go_wp2_with (first
    | (refine wpList_store_rowTo rfl 27 _ _ rfl rfl W.heap.size (rep a0 a1 a1 a2 a3 a4 a5 a6 a7 a7) rfl rfl 27 _ (heap_alloc_last W _) (by kernel_rfl) rfl (rep_one _ _ _ _ _ _ _ _ _ _) ?_; rw [World.setRow_alloc_new])
    | (refine wpList_load_row rfl 27 _ rfl W.heap.size rfl 27 (rep a0 a1 a1 a2 a3 a4 a5 a6 a7 a7) (0, 0) _ (heap_alloc_last W _) Yba.underlying27 rfl (by kernel_rfl) ?_)
    | (refine wpList_store_rowTo rfl 27 _ _ rfl rfl (W.heap.size + 1) (rep a0 a1 a1 a2 a3 a4 a5 a6 a7 a7) rfl rfl 27 _ (heap_alloc2_new W _ _) (by kernel_rfl) rfl (rep_one _ _ _ _ _ _ _ _ _ _) ?_; rw [setRow_new2])
    | fail)
  clear s13 s14 s15 s16 s18 r13 r14 r15 r16 r18
  refine (named_row W.heap.size a0 a1 a1 a2 a3 a4 a5 a6 a7 a7 a8 a9 true _ (heap_alloc2_old W _ _)).mono ?_
  rintro e w' ⟨rfl, rfl⟩
  rw [setRow_old2, show fnd a9 a2 = a2 from by unfold fnd; rw [if_neg (by omega)], show unr a9 a3 = wrap64 (a3 + 1) from by unfold unr; rw [if_neg (by omega)], show eno true a6 = wrap64 (a6 + 1) from rfl]
  have he := eq_rep a0 a1 a1 (a2) (wrap64 (a3 + 1)) (wrap64 (a4 + a8)) (wrap64 (a5 + a9)) (wrap64 (a6 + 1)) a7 a7
  go_wp2_with (first
    | (refine wpList_load_row rfl 27 _ rfl W.heap.size rfl 27 (rep a0 a1 a1 (a2) (wrap64 (a3 + 1)) (wrap64 (a4 + a8)) (wrap64 (a5 + a9)) (wrap64 (a6 + 1)) a7 a7) (0, 0) _ (heap_alloc2_old W _ _) Yba.underlying27 rfl (by kernel_rfl) ?_)
    | (refine wpList_load_row rfl 27 _ rfl (W.heap.size + 1) rfl 27 (rep a0 a1 a1 (a2) (wrap64 (a3 + 1)) (wrap64 (a4 + a8)) (wrap64 (a5 + a9)) (wrap64 (a6 + 1)) a7 a7) (0, 0) _ (heap_alloc2_new W _ _) Yba.underlying27 rfl (by kernel_rfl) ?_)
    | fail)
  go_ret
  exact ⟨rfl, (HG.out.alloc _ _).alloc _ _⟩

set_option maxHeartbeats 800000 in
/-- The walk, its two tests decided: not found, not enough. -/
theorem walkFF (a0 : ByteArray) (a1 a2 a3 a4 a5 a6 a7 a8 a9 : Int) (w : World) (hh : ¬ 0 < a9) :
    Calls Yba.prog 3 #[.string a0, .int .i64 a1, .int .i64 a2, .int .i64 a3, .int .i64 a4, .int .i64 a5, .int .i64 a6, .int .i64 a7, .int .i64 a8, .int .i64 a9, .bool false] w fun e w' => e = .returned (.bool true) ∧ Grown w w' := by
  go_enter Yba.func3, Yba.ntmps3
  go_wp2_with fail
  refine (base_any a0 a1 a2 a3 a4 a5 a6 a7 w).mono ?_
  rintro e W ⟨rfl, hG⟩
  have HG : Hid (Grown w W) := hG
  clear hG
  have s13 := set_13
  have s14 := set_14
  have s15 := set_15
  have s16 := set_16
  have s18 := set_18
  have r13 := rep_13
  have r14 := rep_14
  have r15 := rep_15
  have r16 := rep_16
  have r18 := rep_18
  go_wp2_with (first
    | (refine wpList_store_rowTo rfl 27 _ _ rfl rfl W.heap.size (rep a0 a1 a1 a2 a3 a4 a5 a6 a7 a7) rfl rfl 27 _ (heap_alloc_last W _) (by kernel_rfl) rfl (rep_one _ _ _ _ _ _ _ _ _ _) ?_; rw [World.setRow_alloc_new])
    | (refine wpList_load_row rfl 27 _ rfl W.heap.size rfl 27 (rep a0 a1 a1 a2 a3 a4 a5 a6 a7 a7) (0, 0) _ (heap_alloc_last W _) Yba.underlying27 rfl (by kernel_rfl) ?_)
    | (refine wpList_store_rowTo rfl 27 _ _ rfl rfl (W.heap.size + 1) (rep a0 a1 a1 a2 a3 a4 a5 a6 a7 a7) rfl rfl 27 _ (heap_alloc2_new W _ _) (by kernel_rfl) rfl (rep_one _ _ _ _ _ _ _ _ _ _) ?_; rw [setRow_new2])
    | fail)
  clear s13 s14 s15 s16 s18 r13 r14 r15 r16 r18
  refine (named_row W.heap.size a0 a1 a1 a2 a3 a4 a5 a6 a7 a7 a8 a9 false _ (heap_alloc2_old W _ _)).mono ?_
  rintro e w' ⟨rfl, rfl⟩
  rw [setRow_old2, show fnd a9 a2 = a2 from by unfold fnd; rw [if_neg (by omega)], show unr a9 a3 = wrap64 (a3 + 1) from by unfold unr; rw [if_neg (by omega)], show eno false a6 = a6 from rfl]
  have he := eq_rep a0 a1 a1 (a2) (wrap64 (a3 + 1)) (wrap64 (a4 + a8)) (wrap64 (a5 + a9)) (a6) a7 a7
  go_wp2_with (first
    | (refine wpList_load_row rfl 27 _ rfl W.heap.size rfl 27 (rep a0 a1 a1 (a2) (wrap64 (a3 + 1)) (wrap64 (a4 + a8)) (wrap64 (a5 + a9)) (a6) a7 a7) (0, 0) _ (heap_alloc2_old W _ _) Yba.underlying27 rfl (by kernel_rfl) ?_)
    | (refine wpList_load_row rfl 27 _ rfl (W.heap.size + 1) rfl 27 (rep a0 a1 a1 (a2) (wrap64 (a3 + 1)) (wrap64 (a4 + a8)) (wrap64 (a5 + a9)) (a6) a7 a7) (0, 0) _ (heap_alloc2_new W _ _) Yba.underlying27 rfl (by kernel_rfl) ?_)
    | fail)
  go_ret
  exact ⟨rfl, (HG.out.alloc _ _).alloc _ _⟩

theorem own : ownKnob Yba.prog.godebug = none := by kernel_rfl

/-! ### STEP 1: THE WALK: the Go text returns true. 'Grown w w'': the world has at most new blocks (Derived/RowKit3.lean). Part the cases AHEAD of 'go_enter' where a test parts the walk; take each callee by a contract of your own. -/
theorem walk (a0 : ByteArray) (a1 : Int) (a2 : Int) (a3 : Int) (a4 : Int) (a5 : Int) (a6 : Int) (a7 : Int) (a8 : Int) (a9 : Int) (a10 : Bool) (w0 : a0.size ≤ maxLen) (w1 : (Lit.int .i64 a1).wf = true) (w2 : (Lit.int .i64 a2).wf = true) (w3 : (Lit.int .i64 a3).wf = true) (w4 : (Lit.int .i64 a4).wf = true) (w5 : (Lit.int .i64 a5).wf = true) (w6 : (Lit.int .i64 a6).wf = true) (w7 : (Lit.int .i64 a7).wf = true) (w8 : (Lit.int .i64 a8).wf = true) (w9 : (Lit.int .i64 a9).wf = true) (w : World) :
    Calls Yba.prog 3 #[.string a0, .int .i64 a1, .int .i64 a2, .int .i64 a3, .int .i64 a4, .int .i64 a5, .int .i64 a6, .int .i64 a7, .int .i64 a8, .int .i64 a9, .bool a10] w fun e w' => e = .returned (.bool true) ∧ Grown w w' := by
  by_cases hh : 0 < a9
  · cases a10
    · exact walkTF a0 a1 a2 a3 a4 a5 a6 a7 a8 a9 w hh
    · exact walkTT a0 a1 a2 a3 a4 a5 a6 a7 a8 a9 w hh
  · cases a10
    · exact walkFF a0 a1 a2 a3 a4 a5 a6 a7 a8 a9 w hh
    · exact walkFT a0 a1 a2 a3 a4 a5 a6 a7 a8 a9 w hh

/-! ### THE ROW's STEP: WRITTEN OUT: LEAVE IT -/
set_option maxRecDepth 100000 in
theorem lifted (os : Os) (started : os.Started) (H : Type) (enc : TypeId × Value → H) :
    ReturnsInHanded {} Yba.checked os 3 .any (Rows.lawS0494BExactSpec.pre6 enc Yba.prog Yba.f3 Rows.lawS0494BExactRow.domain false) (Rows.lawS0494BExactSpec.post enc Yba.prog Yba.f3 false true false false) := by
  refine returnsInHanded_of_change (C := Yba.checked) own started (by kernel_rfl) Yba.func3
    (ChangeSpec.witness6 (enc := enc) (C := Yba.checked) false ⟨#[], #[.string ByteArray.empty, .int .i64 0, .int .i64 0, .int .i64 0, .int .i64 0, .int .i64 0, .int .i64 0, .int .i64 0, .int .i64 0, .int .i64 0, .bool false], []⟩ 8 (by kernel_rfl) (by kernel_rfl) (by kernel_rfl) (by kernel_rfl)) ?_
  intro W base args ds gs before hval0 hW hcnd _
  have hval : ∀ (j : Nat) t v, Yba.f3.params[j]? = some t → args[j]? = some v → Value.okWide Yba.prog W .any base t v := hval0
  have hW' := hW
  obtain ⟨p, q, hA0, hV, rfl, hfz, hnd⟩ := hW
  have hA : DataW.TrodAll enc Yba.prog W 0 (fun _ => true) true Yba.f3.params.toList args.toList ds p := hA0
  rw [Yba.params3] at hA hval
  obtain ⟨v0, vs0, d0, ds0, p0, q0, hargs, rfl, rfl, h0, r0⟩ := trodAll_cons hA
  obtain ⟨v1, vs1, d1, ds1, p1, q1, rfl, rfl, rfl, h1, r1⟩ := trodAll_cons r0
  obtain ⟨v2, vs2, d2, ds2, p2, q2, rfl, rfl, rfl, h2, r2⟩ := trodAll_cons r1
  obtain ⟨v3, vs3, d3, ds3, p3, q3, rfl, rfl, rfl, h3, r3⟩ := trodAll_cons r2
  obtain ⟨v4, vs4, d4, ds4, p4, q4, rfl, rfl, rfl, h4, r4⟩ := trodAll_cons r3
  obtain ⟨v5, vs5, d5, ds5, p5, q5, rfl, rfl, rfl, h5, r5⟩ := trodAll_cons r4
  obtain ⟨v6, vs6, d6, ds6, p6, q6, rfl, rfl, rfl, h6, r6⟩ := trodAll_cons r5
  obtain ⟨v7, vs7, d7, ds7, p7, q7, rfl, rfl, rfl, h7, r7⟩ := trodAll_cons r6
  obtain ⟨v8, vs8, d8, ds8, p8, q8, rfl, rfl, rfl, h8, r8⟩ := trodAll_cons r7
  obtain ⟨v9, vs9, d9, ds9, p9, q9, rfl, rfl, rfl, h9, r9⟩ := trodAll_cons r8
  obtain ⟨v10, vs10, d10, ds10, p10, q10, rfl, rfl, rfl, h10, r10⟩ := trodAll_cons r9
  obtain ⟨rfl, rfl, rfl⟩ := trodAll_nil r10
  obtain rfl : args = #[v0, v1, v2, v3, v4, v5, v6, v7, v8, v9, v10] := by cases args; simp_all
  obtain ⟨rfl, rfl⟩ := trodVars_none hV
  obtain ⟨a0, rfl, rfl, rfl, w0⟩ := open_string Yba.underlying9 (hval 0 9 v0 rfl rfl) h0
  obtain ⟨a1, rfl, rfl, rfl, w1⟩ := open_int Yba.underlying3 (hval 1 3 v1 rfl rfl) h1
  obtain ⟨a2, rfl, rfl, rfl, w2⟩ := open_int Yba.underlying3 (hval 2 3 v2 rfl rfl) h2
  obtain ⟨a3, rfl, rfl, rfl, w3⟩ := open_int Yba.underlying3 (hval 3 3 v3 rfl rfl) h3
  obtain ⟨a4, rfl, rfl, rfl, w4⟩ := open_int Yba.underlying3 (hval 4 3 v4 rfl rfl) h4
  obtain ⟨a5, rfl, rfl, rfl, w5⟩ := open_int Yba.underlying3 (hval 5 3 v5 rfl rfl) h5
  obtain ⟨a6, rfl, rfl, rfl, w6⟩ := open_int Yba.underlying3 (hval 6 3 v6 rfl rfl) h6
  obtain ⟨a7, rfl, rfl, rfl, w7⟩ := open_int Yba.underlying3 (hval 7 3 v7 rfl rfl) h7
  obtain ⟨a8, rfl, rfl, rfl, w8⟩ := open_int Yba.underlying3 (hval 8 3 v8 rfl rfl) h8
  obtain ⟨a9, rfl, rfl, rfl, w9⟩ := open_int Yba.underlying3 (hval 9 3 v9 rfl rfl) h9
  obtain ⟨a10, rfl, rfl, rfl⟩ := open_bool Yba.underlying4 (hval 10 4 v10 rfl rfl) h10
  clear hA0 hval0
  simp only [List.append_nil] at hW'
  refine (walk a0 a1 a2 a3 a4 a5 a6 a7 a8 a9 a10 w0 w1 w2 w3 w4 w5 w6 w7 w8 w9 W).mono fun e W' ⟨he, hg⟩ => ?_
  subst he
  exact ⟨_, rfl, post_of_same (pa := []) (pv := []) hW' (fun _ _ _ => (trodAll_cons_mk (shut_bool Yba.underlying4 _) trodAll_mk0)) (fun sp _ => (trodAll_cons_mk (shut_string Yba.underlying9 w0) (trodAll_cons_mk (shut_int Yba.underlying3 w1) (trodAll_cons_mk (shut_int Yba.underlying3 w2) (trodAll_cons_mk (shut_int Yba.underlying3 w3) (trodAll_cons_mk (shut_int Yba.underlying3 w4) (trodAll_cons_mk (shut_int Yba.underlying3 w5) (trodAll_cons_mk (shut_int Yba.underlying3 w6) (trodAll_cons_mk (shut_int Yba.underlying3 w7) (trodAll_cons_mk (shut_int Yba.underlying3 w8) (trodAll_cons_mk (shut_int Yba.underlying3 w9) (trodAll_cons_mk (shut_bool Yba.underlying4 _) trodAll_mk0)))))))))))) (fun _ _ => rfl) rfl
    (hg.frame _) hg.2.1 (ok_one (by kernel_rfl) rfl (okWide_bool_mk Yba.underlying4 _))⟩

theorem over : Rows.lawS0494BExactRow.holds Yba.pinned (OpenSpec.ofChange Rows.lawS0494BExactSpec) :=
  OpenClaim.holds_of_wide 3 Yba.f3 rfl rfl rfl rfl rfl rfl rfl ⟨rfl, rfl, rfl, rfl, rfl⟩ rfl rfl rfl rfl rfl (by kernel_rfl) Yba.func3 (by kernel_rfl)
    (of_decide_eq_true (by kernel_rfl)) (by unfold Func.isWrapper; first | (rw [if_pos (by decide +kernel)]; kernel_rfl) | (rw [if_neg (by decide +kernel)]; exact ⟨rfl, rfl⟩))
    (fun os started H enc _ => lifted os started H enc)

/-- ████ THE STATEMENT ████ -/
theorem proved : Rows.LawS0494BExactSaid :=
  over
end Go.Proofs.Ybulkjfa.lawS0494BExact
