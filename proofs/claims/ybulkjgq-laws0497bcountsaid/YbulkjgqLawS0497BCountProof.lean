/-
  THE PROOF OF 'Rows.LawS0497BCountSaid'. Its frame is the guide's own way for a law over a slice (the skeleton tool's, at a slice of integers), turned by hand to a slice of structs of two fields.
-/
import Derived.Test.YbulkjgqRows
import Derived.Test.YbulkjgqWalk
import Derived.WalkKit
import Derived.ProofKit
import Derived.OpenShut
import Derived.ShutString
import Derived.ChangeOld
import Derived.Below
import Derived.Deep.SlicePairs
namespace Go.Proofs.Ybulkjgq.lawS0497BCount
open Go.ChangeShapes Go.WideShapes Go.ChangeAt Go.RowKit Go.Deep
open Go.ChangeMaps (open_string shut_string)

theorem own : ownKnob Yba.prog.godebug = none := by kernel_rfl
theorem laidOut : laidOutB Yba.prog = true := by kernel_rfl

/-- What the walk is told of the slice of steps that came in: it is nil; or each of its steps is a byte and an int, side by side. -/
def IsSteps (w : World) (a : Option Addr) (len cap : Nat) : Prop :=
  (a = none ∧ len = 0 ∧ cap = 0) ∨
  ∃ x, a = some x ∧ ∀ i, i < len → ∃ u y : Int, (Lit.int .u8 u).wf = true ∧ w.cell? (x.add (i * 2)) = some (.int .u8 u) ∧ w.cell? (x.add (i * 2 + 1)) = some (.int .i64 y)

theorem walk (a0 : Int) (a1 : Option Addr) (len1 cap1 : Nat) (a2 : Int) (w : World) (w1 : IsSteps w a1 len1 cap1) :
    Calls Yba.prog 5 #[.int .i64 a0, .slice a1 len1 cap1, .int .i64 a2] w fun e w' => e = .returned (.bool true) ∧ Below w.heap.size w w' := by
  by_cases hbig : (256 : Int) < (len1 : Int)
  · exact law_long a0 a2 a1 len1 cap1 w hbig
  have hn : len1 ≤ 256 := by omega
  refine law_any a0 a2 a1 len1 cap1 w hn ?_
  rcases Nat.eq_zero_or_pos len1 with h0 | h0
  · subst h0
    exact build_none a0 a1 cap1 w
  · rcases w1 with ⟨_, h, _⟩ | ⟨x, rfl, hc⟩
    · omega
    · obtain ⟨b, off, spot⟩ := x
      obtain ⟨u, y, _, hu, _⟩ := hc 0 h0
      have hspot : spot = none := by simpa [Addr.add] using World.cell?_spot hu
      subst hspot
      have hb : b < w.heap.size := by simpa [Addr.add] using block_lt_of_cell hu
      refine build_some a0 b off len1 cap1 w hn hb fun j hj => ?_
      obtain ⟨u, y, wu, hu, hy⟩ := hc j hj
      obtain ⟨l, r⟩ := bounds_u8 wu
      exact ⟨u, y, l, r, by rw [← add_plain]; exact hu, by rw [Nat.add_assoc, ← add_plain]; exact hy⟩

set_option maxRecDepth 100000 in
theorem lifted (os : Os) (started : os.Started) (H : Type) (enc : TypeId × Value → H) :
    ReturnsInHanded {} Yba.checked os 5 .any (Rows.lawS0497BCountSpec.pre6 enc Yba.prog Yba.f5 Rows.lawS0497BCountRow.domain false) (Rows.lawS0497BCountSpec.post enc Yba.prog Yba.f5 false true false false) := by
  refine returnsInHanded_of_change (C := Yba.checked) own started (by kernel_rfl) Yba.func5
    (ChangeSpec.witness6 (enc := enc) (C := Yba.checked) false ⟨#[], #[.int .i64 0, .slice none 0 0, .int .i64 0], []⟩ 8 (by kernel_rfl) (by kernel_rfl) (by kernel_rfl) (by kernel_rfl)) ?_
  intro W base args ds gs before hval0 hW hcnd _
  have hval : ∀ (j : Nat) t v, Yba.f5.params[j]? = some t → args[j]? = some v → Value.okWide Yba.prog W .any base t v := hval0
  have hW' := hW
  obtain ⟨p, q, hA0, hV, rfl, hfz, hnd⟩ := hW
  have hA : DataW.TrodAll enc Yba.prog W 0 (fun _ => true) true Yba.f5.params.toList args.toList ds p := hA0
  rw [Yba.params5] at hA hval
  obtain ⟨v0, vs0, d0, ds0, p0, q0, hargs, rfl, rfl, h0, r0⟩ := trodAll_cons hA
  obtain ⟨v1, vs1, d1, ds1, p1, q1, rfl, rfl, rfl, h1, r1⟩ := trodAll_cons r0
  obtain ⟨v2, vs2, d2, ds2, p2, q2, rfl, rfl, rfl, h2, r2⟩ := trodAll_cons r1
  obtain ⟨rfl, rfl, rfl⟩ := trodAll_nil r2
  obtain rfl : args = #[v0, v1, v2] := by cases args; simp_all
  obtain ⟨rfl, rfl⟩ := trodVars_none hV
  obtain ⟨a0, rfl, rfl, rfl, w0⟩ := open_int Yba.underlying3 (hval 0 3 v0 rfl rfl) h0
  obtain ⟨a1, len1, cap1, rfl⟩ := okWide_slice Yba.underlying51 (hval 1 51 v1 rfl rfl)
  have k1 := h1
  have lt1 : ∀ x ∈ p1, x.block < W.heap.size := by obtain ⟨m, hm⟩ := k1; exact DataW.trod_lt m _ _ _ hm
  have w1 : IsSteps W a1 len1 cap1 := by
    obtain ⟨fuel, hf⟩ := h1
    rcases open_slice_pairs Yba.underlying51 Yba.underlying83 (by kernel_rfl) rfl rfl (by kernel_rfl) (by kernel_rfl) hf with ⟨hcs, _⟩ | ⟨x, l, c, m, n, V0, V1, D0, D1, P0, P1, hcs, _, hl, _, hm, _, hcell⟩
    · simp [Value.cells] at hcs
      obtain ⟨rfl, rfl, rfl⟩ := hcs
      exact .inl ⟨rfl, rfl, rfl⟩
    · simp [Value.cells] at hcs
      obtain ⟨rfl, rfl, rfl⟩ := hcs
      refine .inr ⟨_, rfl, fun i hi => ?_⟩
      have him : i < m := by rw [hm]; split <;> omega
      obtain ⟨e0, e1, t0, t1⟩ := hcell i him
      obtain ⟨u, hu, _, wu⟩ := DataW.trod_int Yba.underlying5 t0
      obtain ⟨y, hy, _, _⟩ := DataW.trod_int Yba.underlying3 t1
      simp at hu hy
      exact ⟨u, y, wu, by rw [e0, hu], by rw [e1, hy]⟩
  obtain ⟨a2, rfl, rfl, rfl, w2⟩ := open_int Yba.underlying3 (hval 2 3 v2 rfl rfl) h2
  clear hA0 hval0
  refine (walk a0 a1 len1 cap1 a2 W w1).mono fun e W' ⟨he, bel⟩ => ?_
  subst he
  exact ⟨_, rfl, _, _, _, [], _, [], hW', trodAll_mk1 (shut_bool Yba.underlying4 _), (trodAll_cons_mk (shut_int Yba.underlying3 w0) (trodAll_cons_mk (Below.trod laidOut (by kernel_rfl) (of_decide_eq_true (by kernel_rfl)) k1 bel lt1) (trodAll_cons_mk (shut_int Yba.underlying3 w2) trodAll_mk0))), rfl, bel.frame _, fun h => by cases h⟩

theorem over : Rows.lawS0497BCountRow.holds Yba.pinned (OpenSpec.ofChange Rows.lawS0497BCountSpec) :=
  OpenClaim.holds_of_wide 5 Yba.f5 rfl rfl rfl rfl rfl rfl rfl ⟨rfl, rfl, rfl, rfl, rfl⟩ rfl rfl rfl rfl rfl (by kernel_rfl) Yba.func5 (by kernel_rfl)
    (of_decide_eq_true (by kernel_rfl)) (by unfold Func.isWrapper; first | (rw [if_pos (by decide +kernel)]; kernel_rfl) | (rw [if_neg (by decide +kernel)]; exact ⟨rfl, rfl⟩))
    (fun os started H enc _ => lifted os started H enc)

/-- THE STATEMENT -/
theorem proved : Rows.LawS0497BCountSaid := over
end Go.Proofs.Ybulkjgq.lawS0497BCount
