/-
  THE SHELL OF A PROOF OF 'Rows.LawS0501BSizeSaid' ('example.com/stave/stave.LawS0501BSize'), WRITTEN BY PROGRAM (proof-skeleton.mjs) off the guide's own print for that function. Not trusted: Lean checks it.
  Its hole, the walk, is filled by hand; all else is the guide's template at this function's number and types.
-/
import Derived.Test.YbulkjiuRows
import Derived.WalkKit
import Derived.ProofKit
import Derived.OpenShut
import Derived.ShutString
import Derived.Test.YbulkjiuHeader
namespace Go.Proofs.Ybulkjiu.lawS0501BSize
open Go.ChangeShapes Go.WideShapes Go.ChangeAt Go.RowKit
open Go.ChangeMaps (open_string shut_string)
set_option linter.unusedVariables false      -- a walk need not use every 'w<i>' (that an integer argument fits its kind)

theorem vlen_dead : vlen 4294967295 = 0 := rfl
theorem vlen_live (v : Int) (h : ¬ v = 4294967295) : vlen v = v := by unfold vlen; rw [if_neg h]

/-- Behind three new blocks and a call that makes more. -/
theorem grown_of {w W : World} {c1 c2 c3 : Array Value} {t1 t2 t3 : TypeId} (h : Grown (((w.alloc (.cells c1 t1)).alloc (.cells c2 t2)).alloc (.cells c3 t3)) W) : Grown w W := by
  have h0 : Grown w (((w.alloc (.cells c1 t1)).alloc (.cells c2 t2)).alloc (.cells c3 t3)) := (((Grown.refl w).alloc _ _).alloc _ _).alloc _ _
  exact ⟨World.keptBut_trans h0.1 h.1, fun a => (h.2.1 a).trans (h0.2.1 a), Nat.le_trans h0.2.2 h.2.2⟩

theorem own : ownKnob Yba.prog.godebug = none := by kernel_rfl

/-! ### STEP 1: THE WALK: the Go text returns true. 'Grown w w'': the world has at most new blocks (Derived/RowKit3.lean). Part the cases AHEAD of 'go_enter' where a test parts the walk; take each callee by a contract of your own. -/
theorem walk (a0 : Int) (a1 : Int) (a2 : Bool) (w0 : (Lit.int .u32 a0).wf = true) (w1 : (Lit.int .u32 a1).wf = true) (w : World) :
    Calls Yba.prog 4 #[.int .u32 a0, .int .u32 a1, .bool a2] w fun e w' => e = .returned (.bool true) ∧ Grown w w' := by
  obtain ⟨l0, u0⟩ := bounds_u32 w0
  obtain ⟨l1, u1⟩ := bounds_u32 w1
  clear w0 w1
  cases a2
  · by_cases h : a1 = 4294967295
    · subst h
      go_enter Yba.func4, Yba.ntmps4
      go_wp2_with fail
      refine (valueLen_any 0 a0 4294967295 (by omega) (by omega) _).mono ?_
      rintro e w' ⟨rfl, o1, o2, rfl⟩
      rw [vlen_dead]
      go_wp2_with fail
      refine (size_any 0 a0 4294967295 l0 u0 (by omega) (by omega) _).mono ?_
      rintro e W ⟨rfl, hG⟩
      rw [vlen_dead]
      have HG : Hid (Grown _ W) := hG
      clear hG
      go_wp2
      go_ret
      exact ⟨rfl, grown_of HG.out⟩
    · have hb : (a1 == 4294967295) = false := beq_eq_false_iff_ne.2 h
      have hv := vlen_live a1 h
      have HV : Hid (vlen a1 = a1) := hv
      clear hv
      go_enter Yba.func4, Yba.ntmps4
      go_wp2_with fail
      refine (valueLen_any 0 a0 a1 l1 u1 _).mono ?_
      rintro e w' ⟨rfl, o1, o2, rfl⟩
      rw [HV.out]
      go_wp2_with fail
      refine (size_any 0 a0 a1 l0 u0 l1 u1 _).mono ?_
      rintro e W ⟨rfl, hG⟩
      rw [HV.out]
      have HG : Hid (Grown _ W) := hG
      clear hG
      go_wp2
      go_ret
      exact ⟨rfl, grown_of HG.out⟩
  · go_enter Yba.func4, Yba.ntmps4
    go_wp2_with fail
    refine (valueLen_any 0 a0 4294967295 (by omega) (by omega) _).mono ?_
    rintro e w' ⟨rfl, o1, o2, rfl⟩
    rw [vlen_dead]
    go_wp2_with fail
    refine (size_any 0 a0 4294967295 l0 u0 (by omega) (by omega) _).mono ?_
    rintro e W ⟨rfl, hG⟩
    rw [vlen_dead]
    have HG : Hid (Grown _ W) := hG
    clear hG
    go_wp2
    go_ret
    exact ⟨rfl, grown_of HG.out⟩

/-! ### THE ROW's STEP: WRITTEN OUT: LEAVE IT -/
set_option maxRecDepth 100000 in
theorem lifted (os : Os) (started : os.Started) (H : Type) (enc : TypeId × Value → H) :
    ReturnsInHanded {} Yba.checked os 4 .any (Rows.lawS0501BSizeSpec.pre6 enc Yba.prog Yba.f4 Rows.lawS0501BSizeRow.domain false) (Rows.lawS0501BSizeSpec.post enc Yba.prog Yba.f4 false true false false) := by
  refine returnsInHanded_of_change (C := Yba.checked) own started (by kernel_rfl) Yba.func4
    (ChangeSpec.witness6 (enc := enc) (C := Yba.checked) false ⟨#[], #[.int .u32 0, .int .u32 0, .bool false], []⟩ 8 (by kernel_rfl) (by kernel_rfl) (by kernel_rfl) (by kernel_rfl)) ?_
  intro W base args ds gs before hval0 hW hcnd _
  have hval : ∀ (j : Nat) t v, Yba.f4.params[j]? = some t → args[j]? = some v → Value.okWide Yba.prog W .any base t v := hval0
  have hW' := hW
  obtain ⟨p, q, hA0, hV, rfl, hfz, hnd⟩ := hW
  have hA : DataW.TrodAll enc Yba.prog W 0 (fun _ => true) true Yba.f4.params.toList args.toList ds p := hA0
  rw [Yba.params4] at hA hval
  obtain ⟨v0, vs0, d0, ds0, p0, q0, hargs, rfl, rfl, h0, r0⟩ := trodAll_cons hA
  obtain ⟨v1, vs1, d1, ds1, p1, q1, rfl, rfl, rfl, h1, r1⟩ := trodAll_cons r0
  obtain ⟨v2, vs2, d2, ds2, p2, q2, rfl, rfl, rfl, h2, r2⟩ := trodAll_cons r1
  obtain ⟨rfl, rfl, rfl⟩ := trodAll_nil r2
  obtain rfl : args = #[v0, v1, v2] := by cases args; simp_all
  obtain ⟨rfl, rfl⟩ := trodVars_none hV
  obtain ⟨a0, rfl, rfl, rfl, w0⟩ := open_int Yba.underlying22 (hval 0 22 v0 rfl rfl) h0
  obtain ⟨a1, rfl, rfl, rfl, w1⟩ := open_int Yba.underlying22 (hval 1 22 v1 rfl rfl) h1
  obtain ⟨a2, rfl, rfl, rfl⟩ := open_bool Yba.underlying4 (hval 2 4 v2 rfl rfl) h2
  clear hA0 hval0
  simp only [List.append_nil] at hW'
  refine (walk a0 a1 a2 w0 w1 W).mono fun e W' ⟨he, hg⟩ => ?_
  subst he
  exact ⟨_, rfl, post_of_same (pa := []) (pv := []) hW' (fun _ _ _ => (trodAll_cons_mk (shut_bool Yba.underlying4 _) trodAll_mk0)) (fun sp _ => (trodAll_cons_mk (shut_int Yba.underlying22 w0) (trodAll_cons_mk (shut_int Yba.underlying22 w1) (trodAll_cons_mk (shut_bool Yba.underlying4 _) trodAll_mk0)))) (fun _ _ => rfl) rfl
    (hg.frame _) hg.2.1 (ok_one (by kernel_rfl) rfl (okWide_bool_mk Yba.underlying4 _))⟩

theorem over : Rows.lawS0501BSizeRow.holds Yba.pinned (OpenSpec.ofChange Rows.lawS0501BSizeSpec) :=
  OpenClaim.holds_of_wide 4 Yba.f4 rfl rfl rfl rfl rfl rfl rfl ⟨rfl, rfl, rfl, rfl, rfl⟩ rfl rfl rfl rfl rfl (by kernel_rfl) Yba.func4 (by kernel_rfl)
    (of_decide_eq_true (by kernel_rfl)) (by unfold Func.isWrapper; first | (rw [if_pos (by decide +kernel)]; kernel_rfl) | (rw [if_neg (by decide +kernel)]; exact ⟨rfl, rfl⟩))
    (fun os started H enc _ => lifted os started H enc)

/-- ████ THE STATEMENT ████ -/
theorem proved : Rows.LawS0501BSizeSaid :=
  over
end Go.Proofs.Ybulkjiu.lawS0501BSize
