/-
  THE LAW's WALK.
-/
import Derived.Test.YbulkjgqBuild
namespace Go.Proofs.Ybulkjgq
open Go.RowKit Go.MuLone

/-- What a slice that 'Inv' speaks of looks like. -/
theorem own_form {w : World} {B : Nat} {e : TypeId} {size : Nat} {v : Value} {n : Nat} {xs : List Value} (h : w.ownsRow B e size v n xs) : ∃ a c, v = .slice a n c := by
  rcases h.2 with ⟨rfl, rfl⟩ | ⟨g, cap, cur, rfl, _⟩
  · exact ⟨_, _, rfl⟩
  · exact ⟨_, _, rfl⟩

/-- What the law asks of the build. -/
def Built (limit : Int) (v : Value) (w : World) : Prop :=
  Calls Yba.prog 11 #[.int .i64 limit, v] w fun e w' => e = .returned (.pointer (some ⟨w.heap.size, 0, none⟩)) ∧
      ∃ chk vr vs held cl fa nr ns, (chk = .int .u64 0 ∨ chk = self w.heap.size) ∧ Inv w w' (w.heap.size + 1) w.heap.size (qrow (.iface 85 (.pointer (some ⟨w.heap.size, 0, none⟩))) chk vr vs 0 held limit cl fa) vr vs nr ns

set_option maxRecDepth 100000 in
set_option maxHeartbeats 2000000 in
/-- The law, at most 256 steps: whatever the build leaves. -/
theorem law_any (limit size : Int) (a : Option Addr) (n cap : Nat) (w : World) (hn : n ≤ 256) (hbuild : Built limit (.slice a n cap) w) :
    Calls Yba.prog 5 #[.int .i64 limit, .slice a n cap, .int .i64 size] w fun e w' => e = .returned (.bool true) ∧ Below w.heap.size w w' := by
  go_enter Yba.func5, Yba.ntmps5
  go_wp2_with fail
  refine Calls.mono hbuild ?_
  rintro e W ⟨rfl, chk, vr, vs, held, cl, fa, nr, ns, hck, hI⟩
  clear hbuild
  obtain ⟨xr, hxr⟩ := hI.runs
  obtain ⟨ar, cr, rfl⟩ := own_form hxr
  clear hxr
  obtain ⟨xz, hxz⟩ := hI.sizes
  obtain ⟨az, cz, rfl⟩ := own_form hxz
  clear hxz
  have c9 := (hI.cell 9).trans (q_9 _ _ _ _ _ _ _ _ _)
  have c10 := (hI.cell 10).trans (q_10 _ _ _ _ _ _ _ _ _)
  have c11 := (hI.cell 11).trans (q_11 _ _ _ _ _ _ _ _ _)
  have c12 := (hI.cell 12).trans (q_12 _ _ _ _ _ _ _ _ _)
  have c13 := (hI.cell 13).trans (q_13 _ _ _ _ _ _ _ _ _)
  have c14 := (hI.cell 14).trans (q_14 _ _ _ _ _ _ _ _ _)
  have HI : Hid (Inv w W (w.heap.size + 1) w.heap.size (qrow (.iface 85 (.pointer (some ⟨w.heap.size, 0, none⟩))) chk (.slice ar nr cr) (.slice az ns cz) 0 held limit cl fa) (.slice ar nr cr) (.slice az ns cz) nr ns) := hI
  have HK : Hid (chk = .int .u64 0 ∨ chk = self w.heap.size) := hck
  clear hI hck
  go_wp2_with fail
  refine (release_here HI.out HK.out size).mono ?_
  rintro e w1 ⟨rfl, hI⟩
  clear c9 c10 c11 c12 c13 c14
  have c9 := (hI.cell 9).trans (q_9 _ _ _ _ _ _ _ _ _)
  have c10 := (hI.cell 10).trans (q_10 _ _ _ _ _ _ _ _ _)
  have c11 := (hI.cell 11).trans (q_11 _ _ _ _ _ _ _ _ _)
  have c12 := (hI.cell 12).trans (q_12 _ _ _ _ _ _ _ _ _)
  have c13 := (hI.cell 13).trans (q_13 _ _ _ _ _ _ _ _ _)
  have c14 := (hI.cell 14).trans (q_14 _ _ _ _ _ _ _ _ _)
  have c0 := (hI.cell 0).trans (q_0 _ _ _ _ _ _ _ _ _)
  have f0 := hI.frozen 0
  have HB : Hid (Below w.heap.size w w1) := hI.old
  clear hI HI HK
  obtain ⟨D, hD⟩ : ∃ D, D = wrap64 (held - size) := ⟨_, rfl⟩
  rw [← hD] at c11
  go_wp2_with fail
  refine (try_free w.heap.size w1 c0 f0).mono ?_
  rintro e w' ⟨rfl, rfl⟩
  clear c9 c10 c11 c12 c13 c14
  go_wp2_with fail
  refine (unlock_held Yba.muLib ⟨w.heap.size, 0, none⟩ _ (World.cell?_setCell_same _ _ _ c0) (by simp [f0])).mono ?_
  rintro e w' ⟨rfl, rfl⟩
  go_wp2
  go_ret
  exact ⟨rfl, (HB.out.setCell (Nat.le_refl _) _).setCell (Nat.le_refl _) _⟩

/-- More than 256 steps: true at once. -/
theorem law_long (limit size : Int) (a : Option Addr) (n cap : Nat) (w : World) (hn : (256 : Int) < (n : Int)) :
    Calls Yba.prog 5 #[.int .i64 limit, .slice a n cap, .int .i64 size] w fun e w' => e = .returned (.bool true) ∧ Below w.heap.size w w' := by
  go_enter Yba.func5, Yba.ntmps5
  go_wp2
  go_ret
  exact ⟨rfl, Below.refl _ _⟩
end Go.Proofs.Ybulkjgq
