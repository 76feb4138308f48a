/-
  THE CONTRACTS OF '(header).valueLen' AND '(header).size'.
-/
import Derived.Test.YbulkjiuRows
import Derived.WalkKit
import Derived.ProofKit
import Derived.OpenShut
import Derived.WalkSpells
import Derived.Laws.Pointers
import Derived.Deep.RegionHeld3
import Derived.RowKit3
namespace Go.Proofs.Ybulkjiu
open Go.RowKit

/-- The number of value bytes. -/
def vlen (v : Int) : Int := if v = 4294967295 then 0 else v

theorem vlen_bd (v : Int) (l : 0 ≤ v) (u : v ≤ 4294967295) : 0 ≤ vlen v ∧ vlen v ≤ 4294967295 := by unfold vlen; split <;> omega

/-- '(header).valueLen'; its receiver and deleted's lie in new blocks. -/
theorem valueLen_any (c k v : Int) (l : 0 ≤ v) (u : v ≤ 4294967295) (w : World) :
    Calls Yba.prog 5 #[.agg #[.int .u32 c, .int .u32 k, .int .u32 v]] w fun e w' => e = .returned (.int .i64 (vlen v)) ∧ ∃ c1 c2 : Array Value, w' = (w.alloc (.cells c1 24)).alloc (.cells c2 24) := by
  by_cases h : v = 4294967295
  · subst h
    go_enter Yba.func5, Yba.ntmps5
    go_wp2
    go_ret
    exact ⟨rfl, _, _, rfl⟩
  · have hb : (v == 4294967295) = false := beq_eq_false_iff_ne.2 h
    have hv : vlen v = v := by unfold vlen; rw [if_neg h]
    rw [hv]
    clear hv
    go_enter Yba.func5, Yba.ntmps5
    go_wp2
    go_ret
    exact ⟨rfl, _, _, rfl⟩

theorem no_wrap (k x : Int) (lk : 0 ≤ k) (uk : k ≤ 4294967295) (l : 0 ≤ x) (u : x ≤ 4294967295) : IntKind.i64.wrap (IntKind.i64.wrap (20 + IntKind.i64.wrap k) + x) = 20 + k + x := by
  simp only [IntKind.wrap_i64]
  omega
theorem ret_int {k : IntKind} {a b : Int} (h : a = b) : Ending.returned (.int k a) = .returned (.int k b) := by rw [h]

/-- '(header).size'. -/
theorem size_any (c k v : Int) (lk : 0 ≤ k) (uk : k ≤ 4294967295) (l : 0 ≤ v) (u : v ≤ 4294967295) (w : World) :
    Calls Yba.prog 7 #[.agg #[.int .u32 c, .int .u32 k, .int .u32 v]] w fun e w' => e = .returned (.int .i64 (20 + k + vlen v)) ∧ Grown w w' := by
  obtain ⟨lv, uv⟩ := vlen_bd v l u
  go_enter Yba.func7, Yba.ntmps7
  go_wp2_with fail
  go_region_held3 (fun w' => w'.cell? ⟨w.heap.size, 0, none⟩ = some (.int .u32 c) ∧ w'.cell? ⟨w.heap.size, 1, none⟩ = some (.int .u32 k) ∧ w'.cell? ⟨w.heap.size, 2, none⟩ = some (.int .u32 v)) (simp [go_sem, World.cell?_alloc_past])
    (first | (go_at_call 5; refine (valueLen_any c k v l u _).mono ?_; rintro e w' ⟨rfl, o1, o2, rfl⟩))
  go_wp2
  go_ret
  exact ⟨ret_int (no_wrap k (vlen v) lk uk lv uv), by repeat (first | exact Grown.refl _ | apply Grown.drew | apply Grown.alloc)⟩
end Go.Proofs.Ybulkjiu
