/-
  THE SHELL OF A PROOF OF 'Rows.LawS0494BAddSaid' ('example.com/jumpmark/jumpmark/internal/sim.LawS0494BAdd'), WRITTEN BY PROGRAM (proof-skeleton.mjs) off the guide's own print for that function. Not trusted: Lean checks it.
  Its hole, the walk, is filled by hand; all else is the guide's template at this function's number and types.
-/
import Derived.Test.YbulkjfaRows
import Derived.WalkKit
import Derived.ProofKit
import Derived.OpenShut
import Derived.ShutString
import Derived.Test.YbulkjfaAdd
import Derived.Laws.CopyRow
namespace Go.Proofs.Ybulkjfa.lawS0494BAdd
open Go.ChangeShapes Go.WideShapes Go.ChangeAt Go.RowKit
open Go.ChangeMaps (open_string shut_string)
set_option linter.unusedVariables false      -- a walk need not use every 'w<i>' (that an integer argument fits its kind)

/-- The plain law: counting at once is counting apart and adding. -/
theorem plain_f (h x : Int) (l : -9223372036854775808 ≤ x) (u : x ≤ 9223372036854775807) : wrap64 (x + fnd h 0) = fnd h x := by
  unfold fnd wrap64; split <;> omega
theorem plain_u (h x : Int) (l : -9223372036854775808 ≤ x) (u : x ≤ 9223372036854775807) : wrap64 (x + unr h 0) = unr h x := by
  unfold unr wrap64; split <;> omega
theorem plain_e (b : Bool) (x : Int) (l : -9223372036854775808 ≤ x) (u : x ≤ 9223372036854775807) : wrap64 (x + eno b 0) = eno b x := by
  unfold eno wrap64; split <;> omega
theorem plain_s (x n : Int) : wrap64 (x + wrap64 n) = wrap64 (x + n) := by
  unfold wrap64; omega

/-! ### Three new blocks -/
theorem heap3_0 (w : World) (a b c : Obj) : (((w.alloc a).alloc b).alloc c).heap[w.heap.size]? = some a := by
  rw [Below.heap_alloc _ c _ (by simp; omega)]
  exact heap_alloc2_old w a b
theorem heap3_1 (w : World) (a b c : Obj) : (((w.alloc a).alloc b).alloc c).heap[w.heap.size + 1]? = some b := by
  rw [Below.heap_alloc _ c _ (by simp)]
  exact heap_alloc2_new w a b
theorem heap3_2 (w : World) (a b c : Obj) : (((w.alloc a).alloc b).alloc c).heap[w.heap.size + 2]? = some c := by
  have h := heap_alloc_last ((w.alloc a).alloc b) c
  rwa [show ((w.alloc a).alloc b).heap.size = w.heap.size + 2 by simp] at h
theorem setRow3_2 (w : World) (a b : Obj) (c c' : Array Value) (t : TypeId) : (((w.alloc a).alloc b).alloc (.cells c t)).setRow (w.heap.size + 2) c' = ((w.alloc a).alloc b).alloc (.cells c' t) := by
  have h := World.setRow_alloc_new ((w.alloc a).alloc b) c c' t
  rwa [show ((w.alloc a).alloc b).heap.size = w.heap.size + 2 by simp] at h
theorem setRow3_1 (w : World) (a o : Obj) (c c' : Array Value) (t : TypeId) : (((w.alloc a).alloc (.cells c t)).alloc o).setRow (w.heap.size + 1) c' = ((w.alloc a).alloc (.cells c' t)).alloc o := by
  rw [setRow_alloc_past _ _ _ _ (by simp), setRow_new2]

/-- 'add', the world as it stands. -/
theorem add_here (g o : Nat) (s t : ByteArray) (leaps exch found unres nam hold enough msgs tb f u n h e : Int) (w : World) (hgo : o ≠ g)
    (lx : -9223372036854775808 ≤ exch) (ux : exch ≤ 9223372036854775807) (lm : -9223372036854775808 ≤ msgs) (um : msgs ≤ 9223372036854775807) (lt : -9223372036854775808 ≤ tb) (ut : tb ≤ 9223372036854775807)
    (hg : w.heap[g]? = some (.cells (rep s leaps exch found unres nam hold enough msgs tb) 27 (0, 0)))
    (ho : w.heap[o]? = some (.cells (rep t 0 0 f u n h e 0 0) 27 (0, 0))) :
    Calls Yba.prog 10 #[.pointer (some ⟨g, 0, none⟩), .pointer (some ⟨o, 0, none⟩)] w fun e' w' => e' = .returned (.tuple #[]) ∧
      ∃ m, w' = (w.setRow g (rep s leaps exch (wrap64 (found + f)) (wrap64 (unres + u)) (wrap64 (nam + n)) (wrap64 (hold + h)) (wrap64 (enough + e)) msgs tb)).drewN m := by
  have h := add_row g o s t leaps exch found unres nam hold enough msgs tb f u n h e w hgo lx ux lm um lt ut hg ho
  rwa [setRow_self w g _ 27 (0, 0) hg] at h

theorem own : ownKnob Yba.prog.godebug = none := by kernel_rfl

/-! ### STEP 1: THE WALK: the Go text returns true. 'Grown w w'': the world has at most new blocks (Derived/RowKit3.lean). Part the cases AHEAD of 'go_enter' where a test parts the walk; take each callee by a contract of your own. -/
theorem walk (a0 : ByteArray) (a1 : Int) (a2 : Int) (a3 : Int) (a4 : Int) (a5 : Int) (a6 : Int) (a7 : Int) (a8 : Int) (a9 : Int) (a10 : Bool) (w0 : a0.size ≤ maxLen) (w1 : (Lit.int .i64 a1).wf = true) (w2 : (Lit.int .i64 a2).wf = true) (w3 : (Lit.int .i64 a3).wf = true) (w4 : (Lit.int .i64 a4).wf = true) (w5 : (Lit.int .i64 a5).wf = true) (w6 : (Lit.int .i64 a6).wf = true) (w7 : (Lit.int .i64 a7).wf = true) (w8 : (Lit.int .i64 a8).wf = true) (w9 : (Lit.int .i64 a9).wf = true) (w : World) :
    Calls Yba.prog 4 #[.string a0, .int .i64 a1, .int .i64 a2, .int .i64 a3, .int .i64 a4, .int .i64 a5, .int .i64 a6, .int .i64 a7, .int .i64 a8, .int .i64 a9, .bool a10] w fun e w' => e = .returned (.bool true) ∧ Grown w w' := by
  obtain ⟨l1, u1⟩ := bounds_i64 w1
  obtain ⟨l2, u2⟩ := bounds_i64 w2
  obtain ⟨l3, u3⟩ := bounds_i64 w3
  obtain ⟨l6, u6⟩ := bounds_i64 w6
  obtain ⟨l7, u7⟩ := bounds_i64 w7
  clear w0 w1 w2 w3 w4 w5 w6 w7 w8 w9
  obtain ⟨F, hF⟩ : ∃ F, F = fnd a9 a2 := ⟨_, rfl⟩
  obtain ⟨U, hU⟩ : ∃ U, U = unr a9 a3 := ⟨_, rfl⟩
  obtain ⟨E, hE⟩ : ∃ E, E = eno a10 a6 := ⟨_, rfl⟩
  have HF : Hid (F = fnd a9 a2) := hF
  have HU : Hid (U = unr a9 a3) := hU
  have HE : Hid (E = eno a10 a6) := hE
  clear hF hU hE
  have b2 : Hid (-9223372036854775808 ≤ a2 ∧ a2 ≤ 9223372036854775807) := ⟨l2, u2⟩
  have b3 : Hid (-9223372036854775808 ≤ a3 ∧ a3 ≤ 9223372036854775807) := ⟨l3, u3⟩
  have b6 : Hid (-9223372036854775808 ≤ a6 ∧ a6 ≤ 9223372036854775807) := ⟨l6, u6⟩
  clear l2 u2 l3 u3 l6 u6
  go_enter Yba.func4, Yba.ntmps4
  go_wp2_with fail
  refine (base_any a0 a1 a2 a3 a4 a5 a6 a7 w).mono ?_
  rintro e W ⟨rfl, hG⟩
  have HG : Hid (Grown w W) := hG
  clear hG
  go_wp2_with (first
    | (refine wpList_store_rowTo rfl 27 _ _ rfl rfl W.heap.size (rep a0 a1 a1 a2 a3 a4 a5 a6 a7 a7) rfl rfl 27 _ (heap_alloc_last W _) (by kernel_rfl) rfl (rep_one _ _ _ _ _ _ _ _ _ _) ?_; rw [World.setRow_alloc_new])
    | (refine wpList_load_row rfl 27 _ rfl W.heap.size rfl 27 (rep a0 a1 a1 a2 a3 a4 a5 a6 a7 a7) (0, 0) _ (heap_alloc_last W _) Yba.underlying27 rfl (by kernel_rfl) ?_)
    | (refine wpList_store_rowTo rfl 27 _ _ rfl rfl (W.heap.size + 1) (rep a0 a1 a1 a2 a3 a4 a5 a6 a7 a7) rfl rfl 27 _ (heap_alloc2_new W _ _) (by kernel_rfl) rfl (rep_one _ _ _ _ _ _ _ _ _ _) ?_; rw [setRow_new2])
    | fail)
  refine (named_row W.heap.size a0 a1 a1 a2 a3 a4 a5 a6 a7 a7 a8 a9 a10 _ (heap_alloc2_old W _ _)).mono ?_
  rintro e w' ⟨rfl, rfl⟩
  rw [setRow_old2, ← HF.out, ← HU.out, ← HE.out]
  go_wp2_with fail
  refine (named_row (W.heap.size + 2) ⟨#[]⟩ 0 0 0 0 0 0 0 0 0 a8 a9 a10 _ (heap3_2 W _ _ _)).mono ?_
  rintro e w' ⟨rfl, rfl⟩
  rw [setRow3_2]
  go_wp2_with fail
  refine (add_here (W.heap.size + 1) (W.heap.size + 2) a0 ⟨#[]⟩ a1 a1 a2 a3 a4 a5 a6 a7 a7 _ _ _ _ _ _ (by omega) l1 u1 l7 u7 l7 u7 (heap3_1 W _ _ _) (heap3_2 W _ _ _)).mono ?_
  rintro e w' ⟨rfl, m, rfl⟩
  rw [setRow3_1, plain_f a9 a2 b2.out.1 b2.out.2, plain_u a9 a3 b3.out.1 b3.out.2, plain_e a10 a6 b6.out.1 b6.out.2, plain_s, plain_s, ← HF.out, ← HU.out, ← HE.out]
  have he := eq_rep a0 a1 a1 F U (wrap64 (a4 + a8)) (wrap64 (a5 + a9)) E a7 a7
  go_wp2_with (first
    | (refine wpList_load_row rfl 27 _ rfl W.heap.size rfl 27 (rep a0 a1 a1 F U (wrap64 (a4 + a8)) (wrap64 (a5 + a9)) E a7 a7) (0, 0) _ (heap3_0 W _ _ _) Yba.underlying27 rfl (by kernel_rfl) ?_)
    | (refine wpList_load_row rfl 27 _ rfl (W.heap.size + 1) rfl 27 (rep a0 a1 a1 F U (wrap64 (a4 + a8)) (wrap64 (a5 + a9)) E a7 a7) (0, 0) _ (heap3_1 W _ _ _) Yba.underlying27 rfl (by kernel_rfl) ?_)
    | fail)
  go_ret
  exact ⟨rfl, (((HG.out.alloc _ _).alloc _ _).alloc _ _)⟩

/-! ### THE ROW's STEP: WRITTEN OUT: LEAVE IT -/
set_option maxRecDepth 100000 in
theorem lifted (os : Os) (started : os.Started) (H : Type) (enc : TypeId × Value → H) :
    ReturnsInHanded {} Yba.checked os 4 .any (Rows.lawS0494BAddSpec.pre6 enc Yba.prog Yba.f4 Rows.lawS0494BAddRow.domain false) (Rows.lawS0494BAddSpec.post enc Yba.prog Yba.f4 false true false false) := by
  refine returnsInHanded_of_change (C := Yba.checked) own started (by kernel_rfl) Yba.func4
    (ChangeSpec.witness6 (enc := enc) (C := Yba.checked) false ⟨#[], #[.string ByteArray.empty, .int .i64 0, .int .i64 0, .int .i64 0, .int .i64 0, .int .i64 0, .int .i64 0, .int .i64 0, .int .i64 0, .int .i64 0, .bool false], []⟩ 8 (by kernel_rfl) (by kernel_rfl) (by kernel_rfl) (by kernel_rfl)) ?_
  intro W base args ds gs before hval0 hW hcnd _
  have hval : ∀ (j : Nat) t v, Yba.f4.params[j]? = some t → args[j]? = some v → Value.okWide Yba.prog W .any base t v := hval0
  have hW' := hW
  obtain ⟨p, q, hA0, hV, rfl, hfz, hnd⟩ := hW
  have hA : DataW.TrodAll enc Yba.prog W 0 (fun _ => true) true Yba.f4.params.toList args.toList ds p := hA0
  rw [Yba.params4] at hA hval
  obtain ⟨v0, vs0, d0, ds0, p0, q0, hargs, rfl, rfl, h0, r0⟩ := trodAll_cons hA
  obtain ⟨v1, vs1, d1, ds1, p1, q1, rfl, rfl, rfl, h1, r1⟩ := trodAll_cons r0
  obtain ⟨v2, vs2, d2, ds2, p2, q2, rfl, rfl, rfl, h2, r2⟩ := trodAll_cons r1
  obtain ⟨v3, vs3, d3, ds3, p3, q3, rfl, rfl, rfl, h3, r3⟩ := trodAll_cons r2
  obtain ⟨v4, vs4, d4, ds4, p4, q4, rfl, rfl, rfl, h4, r4⟩ := trodAll_cons r3
  obtain ⟨v5, vs5, d5, ds5, p5, q5, rfl, rfl, rfl, h5, r5⟩ := trodAll_cons r4
  obtain ⟨v6, vs6, d6, ds6, p6, q6, rfl, rfl, rfl, h6, r6⟩ := trodAll_cons r5
  obtain ⟨v7, vs7, d7, ds7, p7, q7, rfl, rfl, rfl, h7, r7⟩ := trodAll_cons r6
  obtain ⟨v8, vs8, d8, ds8, p8, q8, rfl, rfl, rfl, h8, r8⟩ := trodAll_cons r7
  obtain ⟨v9, vs9, d9, ds9, p9, q9, rfl, rfl, rfl, h9, r9⟩ := trodAll_cons r8
  obtain ⟨v10, vs10, d10, ds10, p10, q10, rfl, rfl, rfl, h10, r10⟩ := trodAll_cons r9
  obtain ⟨rfl, rfl, rfl⟩ := trodAll_nil r10
  obtain rfl : args = #[v0, v1, v2, v3, v4, v5, v6, v7, v8, v9, v10] := by cases args; simp_all
  obtain ⟨rfl, rfl⟩ := trodVars_none hV
  obtain ⟨a0, rfl, rfl, rfl, w0⟩ := open_string Yba.underlying9 (hval 0 9 v0 rfl rfl) h0
  obtain ⟨a1, rfl, rfl, rfl, w1⟩ := open_int Yba.underlying3 (hval 1 3 v1 rfl rfl) h1
  obtain ⟨a2, rfl, rfl, rfl, w2⟩ := open_int Yba.underlying3 (hval 2 3 v2 rfl rfl) h2
  obtain ⟨a3, rfl, rfl, rfl, w3⟩ := open_int Yba.underlying3 (hval 3 3 v3 rfl rfl) h3
  obtain ⟨a4, rfl, rfl, rfl, w4⟩ := open_int Yba.underlying3 (hval 4 3 v4 rfl rfl) h4
  obtain ⟨a5, rfl, rfl, rfl, w5⟩ := open_int Yba.underlying3 (hval 5 3 v5 rfl rfl) h5
  obtain ⟨a6, rfl, rfl, rfl, w6⟩ := open_int Yba.underlying3 (hval 6 3 v6 rfl rfl) h6
  obtain ⟨a7, rfl, rfl, rfl, w7⟩ := open_int Yba.underlying3 (hval 7 3 v7 rfl rfl) h7
  obtain ⟨a8, rfl, rfl, rfl, w8⟩ := open_int Yba.underlying3 (hval 8 3 v8 rfl rfl) h8
  obtain ⟨a9, rfl, rfl, rfl, w9⟩ := open_int Yba.underlying3 (hval 9 3 v9 rfl rfl) h9
  obtain ⟨a10, rfl, rfl, rfl⟩ := open_bool Yba.underlying4 (hval 10 4 v10 rfl rfl) h10
  clear hA0 hval0
  simp only [List.append_nil] at hW'
  refine (walk a0 a1 a2 a3 a4 a5 a6 a7 a8 a9 a10 w0 w1 w2 w3 w4 w5 w6 w7 w8 w9 W).mono fun e W' ⟨he, hg⟩ => ?_
  subst he
  exact ⟨_, rfl, post_of_same (pa := []) (pv := []) hW' (fun _ _ _ => (trodAll_cons_mk (shut_bool Yba.underlying4 _) trodAll_mk0)) (fun sp _ => (trodAll_cons_mk (shut_string Yba.underlying9 w0) (trodAll_cons_mk (shut_int Yba.underlying3 w1) (trodAll_cons_mk (shut_int Yba.underlying3 w2) (trodAll_cons_mk (shut_int Yba.underlying3 w3) (trodAll_cons_mk (shut_int Yba.underlying3 w4) (trodAll_cons_mk (shut_int Yba.underlying3 w5) (trodAll_cons_mk (shut_int Yba.underlying3 w6) (trodAll_cons_mk (shut_int Yba.underlying3 w7) (trodAll_cons_mk (shut_int Yba.underlying3 w8) (trodAll_cons_mk (shut_int Yba.underlying3 w9) (trodAll_cons_mk (shut_bool Yba.underlying4 _) trodAll_mk0)))))))))))) (fun _ _ => rfl) rfl
    (hg.frame _) hg.2.1 (ok_one (by kernel_rfl) rfl (okWide_bool_mk Yba.underlying4 _))⟩

theorem over : Rows.lawS0494BAddRow.holds Yba.pinned (OpenSpec.ofChange Rows.lawS0494BAddSpec) :=
  OpenClaim.holds_of_wide 4 Yba.f4 rfl rfl rfl rfl rfl rfl rfl ⟨rfl, rfl, rfl, rfl, rfl⟩ rfl rfl rfl rfl rfl (by kernel_rfl) Yba.func4 (by kernel_rfl)
    (of_decide_eq_true (by kernel_rfl)) (by unfold Func.isWrapper; first | (rw [if_pos (by decide +kernel)]; kernel_rfl) | (rw [if_neg (by decide +kernel)]; exact ⟨rfl, rfl⟩))
    (fun os started H enc _ => lifted os started H enc)

/-- ████ THE STATEMENT ████ -/
theorem proved : Rows.LawS0494BAddSaid :=
  over
end Go.Proofs.Ybulkjfa.lawS0494BAdd
