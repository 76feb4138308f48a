/-
  A ROW OF 'sim.action's OF WHICH ONLY 'at' MAY BE OTHER THAN ZERO ('rowOf n f': n actions, the j-th due at f j), AND THE CONTRACT OF 'zzs0494cbuild'.
-/
import Derived.Test.YbulkjfaRows
import Derived.WalkKit
import Derived.ProofKit
import Derived.OpenShut
import Derived.Below
import Derived.Deep.WholeRow
namespace Go.Proofs.Ybulkjfa
open Go.RowKit

/-- The eight cells of an action due at x, all else zero. -/
def actCells (x : Int) : Array Value := #[.int .i64 x, .int .i64 0, .int .i32 0, .int .u64 0, .nilFunc, .int .i32 0, .slice none 0 0, .int .i64 0]
/-- Cell i of the row. -/
def rowAt (f : Nat → Int) (i : Nat) : Value := (actCells (f (i / 8))).getD (i % 8) undef
/-- n actions, the j-th due at f j. -/
def rowOf (n : Nat) (f : Nat → Int) : Array Value := (Array.range (n * 8)).map (rowAt f)
/-- f, but x at k. -/
def upd (f : Nat → Int) (k : Nat) (x : Int) : Nat → Int := fun j => if j = k then x else f j

theorem rowOf_size (n : Nat) (f : Nat → Int) : (rowOf n f).size = n * 8 := by simp [rowOf]
theorem rowOf_get (n : Nat) (f : Nat → Int) (i : Nat) (h : i < n * 8) : (rowOf n f)[i]? = some (rowAt f i) := by
  simp [rowOf, h]
theorem rowAt_head (f : Nat → Int) (k : Nat) : rowAt f (k * 8) = .int .i64 (f k) := by
  unfold rowAt
  rw [Nat.mul_div_cancel _ (by decide), Nat.mul_mod_left]
  rfl
theorem rowOf_head (n : Nat) (f : Nat → Int) (k : Nat) (h : k < n) : (rowOf n f)[k * 8]? = some (.int .i64 (f k)) := by
  rw [rowOf_get n f _ (by omega), rowAt_head]
theorem rowOf_set (n : Nat) (f : Nat → Int) (k : Nat) (x : Int) : (rowOf n f).setIfInBounds (k * 8) (.int .i64 x) = rowOf n (upd f k x) := by
  apply Array.ext_getElem?
  intro i
  rw [Array.getElem?_setIfInBounds]
  by_cases hi : i < n * 8
  · rw [rowOf_get n (upd f k x) i hi]
    by_cases e : k * 8 = i
    · subst e
      rw [if_pos rfl, if_pos (by rw [rowOf_size]; omega), rowAt_head]
      simp [upd]
    · rw [if_neg e, rowOf_get n f i hi]
      congr 1
      unfold rowAt
      by_cases hk : i / 8 = k
      · have hm : 0 < i % 8 := by omega
        have hm8 : i % 8 < 8 := Nat.mod_lt _ (by decide)
        generalize i % 8 = m at hm hm8
        match m, hm, hm8 with
        | 1, _, _ => rfl
        | 2, _, _ => rfl
        | 3, _, _ => rfl
        | 4, _, _ => rfl
        | 5, _, _ => rfl
        | 6, _, _ => rfl
        | 7, _, _ => rfl
      · simp [upd, hk]
  · have h1 : (rowOf n f)[i]? = none := Array.getElem?_eq_none (by rw [rowOf_size]; omega)
    have h2 : (rowOf n (upd f k x))[i]? = none := Array.getElem?_eq_none (by rw [rowOf_size]; omega)
    rw [h1, h2, rowOf_size]
    by_cases e : k * 8 = i
    · rw [if_pos e, if_neg (by omega)]
    · rw [if_neg e]
theorem rowOf_made (n : Nat) : madeCells (actCells 0) (n * 8) = rowOf n (fun _ => 0) := by
  apply Array.ext_getElem?
  intro i
  by_cases hi : i < n * 8
  · rw [rowOf_get n _ i hi]
    have hm8 : i % 8 < 8 := Nat.mod_lt _ (by decide)
    have hs : (actCells 0).size = 8 := rfl
    simp only [madeCells, hs, Array.getElem?_map, Array.getElem?_range, hi, if_true, Option.map_some]
    congr 1
    unfold rowAt
    generalize i % 8 = m at hm8
    match m, hm8 with
    | 0, _ => rfl
    | 1, _ => rfl
    | 2, _ => rfl
    | 3, _ => rfl
    | 4, _ => rfl
    | 5, _ => rfl
    | 6, _ => rfl
    | 7, _ => rfl
  · rw [Array.getElem?_eq_none (by rw [size_madeCells]; omega), Array.getElem?_eq_none (by rw [rowOf_size]; omega)]

/-- What the build has made after k rounds. -/
def upTo (zs : List Int) (k : Nat) : Nat → Int := fun j => if j < k then zs.getD j 0 else 0
theorem upTo_zero (zs : List Int) : upTo zs 0 = fun _ => 0 := by funext j; simp [upTo]
theorem upTo_succ (zs : List Int) (k : Nat) : upd (upTo zs k) k (zs.getD k 0) = upTo zs (k + 1) := by
  funext j
  unfold upd upTo
  by_cases h : j = k
  · subst h; simp
  · by_cases h' : j < k
    · simp [h, h', show j < k + 1 by omega]
    · simp [h, h', show ¬ j < k + 1 by omega]
theorem upTo_at (zs : List Int) (n k : Nat) (h : k < n) : upTo zs n k = zs.getD k 0 := by simp [upTo, h]

theorem Yba.info49 : (Yba.prog.info? 49).map (fun i => (i.zero, i.size, i.bytes)) = some (some (.agg (actCells 0)), 8, 80) := by kernel_rfl

/-- 'make([]action, n)'. -/
theorem run_make49 (n : Nat) (h : n ≤ 1024) (w : World) : (Instr.makeSlice 37 (.int .i64 (n : Int)) (.int .i64 (n : Int))).run Yba.prog w =
    .ok (.slice (some ⟨w.heap.size, 0, none⟩) n n) (w.alloc (.cells (rowOf n (fun _ => 0)) 49)) := by
  obtain ⟨i, hi, hz, hs, hb⟩ := info_parts Yba.info49
  have hr := run_make (P := Yba.prog) w 37 49 i (.agg (actCells 0)) Yba.underlying37 hi hz .i64 .i64 n n (by omega) (Int.le_refl _) (by rw [hb]; omega) (by omega)
  simp only [Int.toNat_natCast, hs, Value.cells, rowOf_made] at hr
  exact hr

/-- 'zzs0494cbuild' of no times. -/
theorem build_none (a : Option Addr) (cap : Nat) (w : World) :
    Calls Yba.prog 11 #[.slice a 0 cap] w fun e w' => e = .returned (.slice (some ⟨w.heap.size, 0, none⟩) 0 0) ∧ w' = w.alloc (.cells (rowOf 0 (upTo [] 0)) 49) := by
  have hm := run_make49 0 (by omega)
  rw [← upTo_zero []] at hm
  simp only [Int.natCast_zero] at hm
  go_enter Yba.func11, Yba.ntmps11
  go_wp2
  go_loopw [4] (fun i wr => i = .int .i64 0 ∧ wr = w.alloc (.cells (rowOf 0 (upTo [] 0)) 49)) (fun _ _ => 0)
  case atStart => exact ⟨rfl, rfl⟩
  case round =>
    obtain ⟨rfl, rfl⟩ := hrel
    go_wp2
    go_ret
    exact ⟨rfl, rfl⟩

/-- 'zzs0494cbuild': the j-th action is due at the j-th time. -/
theorem build_some (b off n cap : Nat) (zs : List Int) (w : World) (hn : n ≤ 1024) (hb : b < w.heap.size) (hc : ∀ j, j < n → w.cell? ⟨b, off + j, none⟩ = some (.int .i64 (zs.getD j 0))) :
    Calls Yba.prog 11 #[.slice (some ⟨b, off, none⟩) n cap] w fun e w' => e = .returned (.slice (some ⟨w.heap.size, 0, none⟩) n n) ∧ w' = w.alloc (.cells (rowOf n (upTo zs n)) 49) := by
  have hm := run_make49 n hn
  rw [← upTo_zero zs] at hm
  go_enter Yba.func11, Yba.ntmps11
  go_wp2
  clear hm
  go_loopw [4] (fun i wr => ∃ k : Nat, k ≤ n ∧ i = .int .i64 k ∧ wr = w.alloc (.cells (rowOf n (upTo zs k)) 49)) (fun i _ => n - (intOf i).toNat)
  case atStart => exact ⟨0, Nat.zero_le _, rfl, rfl⟩
  case round =>
    obtain ⟨k, hk, rfl, rfl⟩ := hrel
    by_cases hlt : k < n
    · obtain ⟨x, hx⟩ : ∃ x, x = zs.getD k 0 := ⟨_, rfl⟩
      have hcx := hc k hlt
      rw [← hx] at hcx
      obtain ⟨F, hF⟩ : ∃ F, F = upTo zs k := ⟨_, rfl⟩
      rw [← hF]
      have HX : Hid (upTo zs (k + 1) = upd F k x) := by show _ = _; rw [hF, hx, upTo_succ]
      clear hF hx hc
      have hrow := rowOf_head n F k hlt
      have hset := rowOf_set n F k x
      go_wp2
      go_roundw
      case rel => exact ⟨k + 1, by omega, by go_num, by rw [HX.out]⟩
      case measure => simp [intOf]; omega
    · have e : k = n := by omega
      subst e
      go_wp2
      go_ret
      exact ⟨rfl, rfl⟩
end Go.Proofs.Ybulkjfa
