/-
  'runQueue' AS A ROW OF FIFTEEN CELLS UNDER A NAME ('qrow'), AND THE CONTRACTS OF release, fail, close, tryHold.
-/
import Derived.Test.YbulkjgqCond
import Derived.Deep.WholeRow
import Derived.Laws.CopyRow
import Derived.RegionTactic
import Derived.Deep.QuietTactic
import Derived.BigQuiet
namespace Go.Proofs.Ybulkjgq
open Go.RowKit Go.MuLone

/-- The cells of a runQueue: the lock's word, the Cond's locker and checker, runs, sizes, held, limit, closed, failed. -/
def qrow (L chk vr vs : Value) (st held limit : Int) (cl fa : Bool) : Array Value :=
  #[.int .i32 st, .int .u32 0, L, .int .u32 0, .int .u32 0, .int .u64 0, .pointer none, .pointer none, chk, vr, vs, .int .i64 held, .int .i64 limit, .bool cl, .bool fa]

section
variable (L chk vr vs : Value) (st held limit : Int) (cl fa : Bool)
theorem q_0 : (qrow L chk vr vs st held limit cl fa)[0]? = some (.int .i32 st) := rfl
theorem q_3 : (qrow L chk vr vs st held limit cl fa)[3]? = some (.int .u32 0) := rfl
theorem q_4 : (qrow L chk vr vs st held limit cl fa)[4]? = some (.int .u32 0) := rfl
theorem q_8 : (qrow L chk vr vs st held limit cl fa)[8]? = some chk := rfl
theorem q_9 : (qrow L chk vr vs st held limit cl fa)[9]? = some vr := rfl
theorem q_10 : (qrow L chk vr vs st held limit cl fa)[10]? = some vs := rfl
theorem q_11 : (qrow L chk vr vs st held limit cl fa)[11]? = some (.int .i64 held) := rfl
theorem q_12 : (qrow L chk vr vs st held limit cl fa)[12]? = some (.int .i64 limit) := rfl
theorem q_13 : (qrow L chk vr vs st held limit cl fa)[13]? = some (.bool cl) := rfl
theorem q_14 : (qrow L chk vr vs st held limit cl fa)[14]? = some (.bool fa) := rfl
theorem s_0 (x : Int) : (qrow L chk vr vs st held limit cl fa).setIfInBounds 0 (.int .i32 x) = qrow L chk vr vs x held limit cl fa := rfl
theorem s_8 (x : Value) : (qrow L chk vr vs st held limit cl fa).setIfInBounds 8 x = qrow L x vr vs st held limit cl fa := rfl
theorem s_9 (x : Value) : (qrow L chk vr vs st held limit cl fa).setIfInBounds 9 x = qrow L chk x vs st held limit cl fa := rfl
theorem s_10 (x : Value) : (qrow L chk vr vs st held limit cl fa).setIfInBounds 10 x = qrow L chk vr x st held limit cl fa := rfl
theorem s_11 (x : Int) : (qrow L chk vr vs st held limit cl fa).setIfInBounds 11 (.int .i64 x) = qrow L chk vr vs st x limit cl fa := rfl
theorem s_13 (x : Bool) : (qrow L chk vr vs st held limit cl fa).setIfInBounds 13 (.bool x) = qrow L chk vr vs st held limit x fa := rfl
theorem s_14 (x : Bool) : (qrow L chk vr vs st held limit cl fa).setIfInBounds 14 (.bool x) = qrow L chk vr vs st held limit cl x := rfl
end

/-- The Cond's checker at g's Cond. -/
def self (g : Nat) : Value := .pointer (some ⟨g, 8, none⟩)

/-- What the walks ask of a block's row, for whatever row is set there. -/
structure RowAt (w : World) (g : Nat) : Prop where
  cs : ∀ R i, (w.setRow g R).cell? ⟨g, i, none⟩ = R[i]?
  fz : ∀ R i, (w.setRow g R).frozen? ⟨g, i, none⟩ = false
  sc : ∀ R i v, (w.setRow g R).setCell ⟨g, i, none⟩ v = w.setRow g (R.setIfInBounds i v)
theorem rowAt {w : World} {g : Nat} {cur : Array Value} {t : TypeId} (hg : w.heap[g]? = some (.cells cur t (0, 0))) : RowAt w g :=
  ⟨fun R i => cell_setRow_same w g i _ R t (0, 0) hg, fun R i => frozen_of_row _ g i R t (setRow_heap w g _ R t (0, 0) hg),
    fun R i v => by rw [setCell_eq_setRow _ g i R t (0, 0) v (setRow_heap w g _ R t (0, 0) hg), setRow_setRow]⟩

/-- Broadcast on the row, whether the Cond has been used or not. -/
theorem bcast_row (g : Nat) (L chk vr vs : Value) (st held limit : Int) (cl fa : Bool) (w : World) (A : RowAt w g) (hk : chk = .int .u64 0 ∨ chk = self g) :
    Calls Yba.prog 24 #[.pointer (some ⟨g, 2, none⟩)] (w.setRow g (qrow L chk vr vs st held limit cl fa)) fun e w' => e = .returned (.tuple #[]) ∧
      w' = w.setRow g (qrow L (self g) vr vs st held limit cl fa) := by
  rcases hk with rfl | rfl
  · refine (bcast_new g _ ((A.cs _ _).trans (q_3 _ _ _ _ _ _ _ _ _)) ((A.cs _ _).trans (q_4 _ _ _ _ _ _ _ _ _)) ((A.cs _ _).trans (q_8 _ _ _ _ _ _ _ _ _)) (A.fz _ _)).mono ?_
    rintro e w' ⟨rfl, rfl⟩
    exact ⟨rfl, by rw [A.sc, s_8]; rfl⟩
  · refine (bcast_self g _ ((A.cs _ _).trans (q_3 _ _ _ _ _ _ _ _ _)) ((A.cs _ _).trans (q_4 _ _ _ _ _ _ _ _ _)) ((A.cs _ _).trans (q_8 _ _ _ _ _ _ _ _ _))).mono ?_
    rintro e w' ⟨rfl, rfl⟩
    exact ⟨rfl, rfl⟩

/-- Lock on the row. -/
theorem lock_row (g : Nat) (L chk vr vs : Value) (held limit : Int) (cl fa : Bool) (w : World) (A : RowAt w g) :
    Calls Yba.prog 23 #[.pointer (some ⟨g, 0, none⟩)] (w.setRow g (qrow L chk vr vs 0 held limit cl fa)) fun e w' => e = .returned (.tuple #[]) ∧
      w' = w.setRow g (qrow L chk vr vs 1 held limit cl fa) := by
  refine (lock_free Yba.muLib ⟨g, 0, none⟩ _ ((A.cs _ _).trans (q_0 _ _ _ _ _ _ _ _ _)) (A.fz _ _)).mono ?_
  rintro e w' ⟨rfl, rfl⟩
  exact ⟨rfl, by rw [A.sc, s_0]⟩

set_option maxHeartbeats 800000 in
/-- release: held goes down by size (wrapped); the Cond has been used. -/
theorem release_row (g : Nat) (L chk vr vs : Value) (held limit size : Int) (cl fa : Bool) (w : World) (A : RowAt w g) (hk : chk = .int .u64 0 ∨ chk = self g) :
    Calls Yba.prog 12 #[.pointer (some ⟨g, 0, none⟩), .int .i64 size] (w.setRow g (qrow L chk vr vs 0 held limit cl fa)) fun e w' => e = .returned (.tuple #[]) ∧
      w' = w.setRow g (qrow L (self g) vr vs 0 (wrap64 (held - size)) limit cl fa) := by
  have cs := A.cs
  have fz := A.fz
  have sc := A.sc
  have HK : Hid (chk = .int .u64 0 ∨ chk = self g) := hk
  clear hk
  have q11 := q_11
  have s11 := s_11
  go_enter_defers Yba.func12, Yba.ntmps12
  go_wp2_with fail
  refine (lock_row g L chk vr vs held limit cl fa w A).mono ?_
  rintro e w' ⟨rfl, rfl⟩
  go_wp2_with fail
  refine (bcast_row g L chk vr vs 1 _ limit cl fa w A HK.out).mono ?_
  rintro e w' ⟨rfl, rfl⟩
  go_wp2
  refine leaves_cons (f := 14) (args := #[.pointer (some ⟨g, 0, none⟩)]) (by simp) (by simp [go_sem]) ?_
  refine (unlock_deferred Yba.muLib ⟨g, 0, none⟩ .returning _ ((A.cs _ _).trans (q_0 _ _ _ _ _ _ _ _ _)) (A.fz _ _)).mono ?_
  rintro e u' w'' ⟨rfl, rfl, rfl⟩
  exact ⟨_, results_none rfl _ _ _, rfl, by rw [A.sc, s_0]⟩

set_option maxHeartbeats 800000 in
/-- fail: failed is set. -/
theorem fail_row (g : Nat) (L chk vr vs : Value) (held limit : Int) (cl fa : Bool) (w : World) (A : RowAt w g) (hk : chk = .int .u64 0 ∨ chk = self g) :
    Calls Yba.prog 21 #[.pointer (some ⟨g, 0, none⟩)] (w.setRow g (qrow L chk vr vs 0 held limit cl fa)) fun e w' => e = .returned (.tuple #[]) ∧
      w' = w.setRow g (qrow L (self g) vr vs 0 held limit cl true) := by
  have cs := A.cs
  have fz := A.fz
  have sc := A.sc
  have HK : Hid (chk = .int .u64 0 ∨ chk = self g) := hk
  clear hk
  have q1 := q_14
  have s1 := s_14
  go_enter_defers Yba.func21, Yba.ntmps21
  go_wp2_with fail
  refine (lock_row g L chk vr vs held limit cl fa w A).mono ?_
  rintro e w' ⟨rfl, rfl⟩
  go_wp2_with fail
  refine (bcast_row g L chk vr vs 1 held limit cl true w A HK.out).mono ?_
  rintro e w' ⟨rfl, rfl⟩
  go_wp2
  refine leaves_cons (f := 14) (args := #[.pointer (some ⟨g, 0, none⟩)]) (by simp) (by simp [go_sem]) ?_
  refine (unlock_deferred Yba.muLib ⟨g, 0, none⟩ .returning _ ((A.cs _ _).trans (q_0 _ _ _ _ _ _ _ _ _)) (A.fz _ _)).mono ?_
  rintro e u' w'' ⟨rfl, rfl, rfl⟩
  exact ⟨_, results_none rfl _ _ _, rfl, by rw [A.sc, s_0]⟩

set_option maxHeartbeats 800000 in
/-- close: closed is set. -/
theorem close_row (g : Nat) (L chk vr vs : Value) (held limit : Int) (cl fa : Bool) (w : World) (A : RowAt w g) (hk : chk = .int .u64 0 ∨ chk = self g) :
    Calls Yba.prog 22 #[.pointer (some ⟨g, 0, none⟩)] (w.setRow g (qrow L chk vr vs 0 held limit cl fa)) fun e w' => e = .returned (.tuple #[]) ∧
      w' = w.setRow g (qrow L (self g) vr vs 0 held limit true fa) := by
  have cs := A.cs
  have fz := A.fz
  have sc := A.sc
  have HK : Hid (chk = .int .u64 0 ∨ chk = self g) := hk
  clear hk
  have q1 := q_13
  have s1 := s_13
  go_enter_defers Yba.func22, Yba.ntmps22
  go_wp2_with fail
  refine (lock_row g L chk vr vs held limit cl fa w A).mono ?_
  rintro e w' ⟨rfl, rfl⟩
  go_wp2_with fail
  refine (bcast_row g L chk vr vs 1 held limit true fa w A HK.out).mono ?_
  rintro e w' ⟨rfl, rfl⟩
  go_wp2
  refine leaves_cons (f := 14) (args := #[.pointer (some ⟨g, 0, none⟩)]) (by simp) (by simp [go_sem]) ?_
  refine (unlock_deferred Yba.muLib ⟨g, 0, none⟩ .returning _ ((A.cs _ _).trans (q_0 _ _ _ _ _ _ _ _ _)) (A.fz _ _)).mono ?_
  rintro e u' w'' ⟨rfl, rfl, rfl⟩
  exact ⟨_, results_none rfl _ _ _, rfl, by rw [A.sc, s_0]⟩

theorem setCell_drewN (w : World) (n : Nat) (a : Addr) (v : Value) : (w.drewN n).setCell a v = (w.setCell a v).drewN n := rfl

set_option maxHeartbeats 800000 in
/-- tryHold that holds nothing: failed. -/
theorem hold_failed (g : Nat) (L chk vr vs : Value) (held limit size : Int) (cl : Bool) (w : World) (A : RowAt w g) :
    Calls Yba.prog 16 #[.pointer (some ⟨g, 0, none⟩), .int .i64 size] (w.setRow g (qrow L chk vr vs 0 held limit cl true)) fun e w' => e = .returned (.bool false) ∧
      ∃ m, w' = (w.setRow g (qrow L chk vr vs 0 held limit cl true)).drewN m := by
  have cs := A.cs
  have fz := A.fz
  have sc := A.sc
  have q11 := q_11
  have q12 := q_12
  have q14 := q_14
  have s11 := s_11
  go_enter_defers Yba.func16, Yba.ntmps16
  go_wp2_with fail
  refine (lock_row g L chk vr vs held limit cl true w A).mono ?_
  rintro e w' ⟨rfl, rfl⟩
  go_wp2
  go_quiet (fail)
  go_wp2
  refine leaves_cons (f := 14) (args := #[.pointer (some ⟨g, 0, none⟩)]) (by simp) (by simp [go_sem]) ?_
  refine (unlock_deferred Yba.muLib ⟨g, 0, none⟩ .returning _ (by exact (A.cs _ _).trans (q_0 _ _ _ _ _ _ _ _ _)) (by exact A.fz _ _)).mono ?_
  rintro e u' w'' ⟨rfl, rfl, rfl⟩
  exact ⟨_, results_tmp rfl _ _ _, rfl, _, (setCell_drewN _ _ _ _).trans (by rw [A.sc, s_0])⟩

set_option maxHeartbeats 800000 in
/-- tryHold that holds nothing: no room. -/
theorem hold_full (g : Nat) (L chk vr vs : Value) (held limit size : Int) (cl : Bool) (w : World) (A : RowAt w g) (h1 : 0 < held) (h2 : limit < wrap64 (held + size)) :
    Calls Yba.prog 16 #[.pointer (some ⟨g, 0, none⟩), .int .i64 size] (w.setRow g (qrow L chk vr vs 0 held limit cl false)) fun e w' => e = .returned (.bool false) ∧
      ∃ m, w' = (w.setRow g (qrow L chk vr vs 0 held limit cl false)).drewN m := by
  have cs := A.cs
  have fz := A.fz
  have sc := A.sc
  have q11 := q_11
  have q12 := q_12
  have q14 := q_14
  have s11 := s_11
  go_enter_defers Yba.func16, Yba.ntmps16
  go_wp2_with fail
  refine (lock_row g L chk vr vs held limit cl false w A).mono ?_
  rintro e w' ⟨rfl, rfl⟩
  go_wp2
  go_quiet (fail)
  go_wp2
  refine leaves_cons (f := 14) (args := #[.pointer (some ⟨g, 0, none⟩)]) (by simp) (by simp [go_sem]) ?_
  refine (unlock_deferred Yba.muLib ⟨g, 0, none⟩ .returning _ (by exact (A.cs _ _).trans (q_0 _ _ _ _ _ _ _ _ _)) (by exact A.fz _ _)).mono ?_
  rintro e u' w'' ⟨rfl, rfl, rfl⟩
  exact ⟨_, results_tmp rfl _ _ _, rfl, _, (setCell_drewN _ _ _ _).trans (by rw [A.sc, s_0])⟩

set_option maxHeartbeats 800000 in
/-- tryHold that holds: there is room. -/
theorem hold_room (g : Nat) (L chk vr vs : Value) (held limit size : Int) (cl : Bool) (w : World) (A : RowAt w g) (h1 : 0 < held) (h2 : ¬ limit < wrap64 (held + size)) :
    Calls Yba.prog 16 #[.pointer (some ⟨g, 0, none⟩), .int .i64 size] (w.setRow g (qrow L chk vr vs 0 held limit cl false)) fun e w' => e = .returned (.bool true) ∧
      ∃ m, w' = (w.setRow g (qrow L chk vr vs 0 (wrap64 (held + size)) limit cl false)).drewN m := by
  have cs := A.cs
  have fz := A.fz
  have sc := A.sc
  have q11 := q_11
  have q12 := q_12
  have q14 := q_14
  have s11 := s_11
  go_enter_defers Yba.func16, Yba.ntmps16
  go_wp2_with fail
  refine (lock_row g L chk vr vs held limit cl false w A).mono ?_
  rintro e w' ⟨rfl, rfl⟩
  go_wp2
  go_quiet (fail)
  go_wp2
  rw [setCell_drewN, A.sc, s_11]
  refine leaves_cons (f := 14) (args := #[.pointer (some ⟨g, 0, none⟩)]) (by simp) (by simp [go_sem]) ?_
  refine (unlock_deferred Yba.muLib ⟨g, 0, none⟩ .returning _ (by exact (A.cs _ _).trans (q_0 _ _ _ _ _ _ _ _ _)) (by exact A.fz _ _)).mono ?_
  rintro e u' w'' ⟨rfl, rfl, rfl⟩
  exact ⟨_, results_tmp rfl _ _ _, rfl, _, (setCell_drewN _ _ _ _).trans (by rw [A.sc, s_0])⟩

set_option maxHeartbeats 800000 in
/-- tryHold that holds: nothing is held. -/
theorem hold_free (g : Nat) (L chk vr vs : Value) (held limit size : Int) (cl : Bool) (w : World) (A : RowAt w g) (h1 : ¬ 0 < held) :
    Calls Yba.prog 16 #[.pointer (some ⟨g, 0, none⟩), .int .i64 size] (w.setRow g (qrow L chk vr vs 0 held limit cl false)) fun e w' => e = .returned (.bool true) ∧
      ∃ m, w' = (w.setRow g (qrow L chk vr vs 0 (wrap64 (held + size)) limit cl false)).drewN m := by
  have cs := A.cs
  have fz := A.fz
  have sc := A.sc
  have q11 := q_11
  have q12 := q_12
  have q14 := q_14
  have s11 := s_11
  have h1' : decide (0 < held) = false := decide_eq_false h1
  go_enter_defers Yba.func16, Yba.ntmps16
  go_wp2_with fail
  refine (lock_row g L chk vr vs held limit cl false w A).mono ?_
  rintro e w' ⟨rfl, rfl⟩
  go_wp2
  go_quiet (fail)
  go_wp2
  rw [setCell_drewN, A.sc, s_11]
  refine leaves_cons (f := 14) (args := #[.pointer (some ⟨g, 0, none⟩)]) (by simp) (by simp [go_sem]) ?_
  refine (unlock_deferred Yba.muLib ⟨g, 0, none⟩ .returning _ (by exact (A.cs _ _).trans (q_0 _ _ _ _ _ _ _ _ _)) (by exact A.fz _ _)).mono ?_
  rintro e u' w'' ⟨rfl, rfl, rfl⟩
  exact ⟨_, results_tmp rfl _ _ _, rfl, _, (setCell_drewN _ _ _ _).trans (by rw [A.sc, s_0])⟩

/-- tryHold: whatever it answers, at most held turns. -/
theorem hold_row (g : Nat) (L chk vr vs : Value) (held limit size : Int) (cl fa : Bool) (w : World) (A : RowAt w g) :
    Calls Yba.prog 16 #[.pointer (some ⟨g, 0, none⟩), .int .i64 size] (w.setRow g (qrow L chk vr vs 0 held limit cl fa)) fun e w' => ∃ b held' m, e = .returned (.bool b) ∧
      w' = (w.setRow g (qrow L chk vr vs 0 held' limit cl fa)).drewN m := by
  cases fa
  · by_cases h1 : 0 < held
    · by_cases h2 : limit < wrap64 (held + size)
      · exact (hold_full g L chk vr vs held limit size cl w A h1 h2).mono fun e w' ⟨he, m, hw⟩ => ⟨_, _, m, he, hw⟩
      · exact (hold_room g L chk vr vs held limit size cl w A h1 h2).mono fun e w' ⟨he, m, hw⟩ => ⟨_, _, m, he, hw⟩
    · exact (hold_free g L chk vr vs held limit size cl w A h1).mono fun e w' ⟨he, m, hw⟩ => ⟨_, _, m, he, hw⟩
  · exact (hold_failed g L chk vr vs held limit size cl w A).mono fun e w' ⟨he, m, hw⟩ => ⟨_, _, m, he, hw⟩
end Go.Proofs.Ybulkjgq
