/-
  THE METHODS BY 'Inv', AND THE CONTRACTS OF newRunQueue AND zzs0497bbuild.
-/
import Derived.Test.YbulkjgqPut
import Derived.LoopTactic
namespace Go.Proofs.Ybulkjgq
open Go.RowKit Go.MuLone

section
variable {w0 w : World} {B g : Nat} {L chk vr vs : Value} {held limit : Int} {cl fa : Bool} {nr ns : Nat}

theorem release_here (hI : Inv w0 w B g (qrow L chk vr vs 0 held limit cl fa) vr vs nr ns) (hk : chk = .int .u64 0 ∨ chk = self g) (size : Int) :
    Calls Yba.prog 12 #[.pointer (some ⟨g, 0, none⟩), .int .i64 size] w fun e w' => e = .returned (.tuple #[]) ∧ Inv w0 w' B g (qrow L (self g) vr vs 0 (wrap64 (held - size)) limit cl fa) vr vs nr ns := by
  have h := release_row g L chk vr vs held limit size cl fa w hI.rowAt hk
  rw [hI.same] at h
  exact h.mono fun e w' ⟨he, hw⟩ => ⟨he, by rw [hw]; exact hI.setRow _⟩
theorem fail_here (hI : Inv w0 w B g (qrow L chk vr vs 0 held limit cl fa) vr vs nr ns) (hk : chk = .int .u64 0 ∨ chk = self g) :
    Calls Yba.prog 21 #[.pointer (some ⟨g, 0, none⟩)] w fun e w' => e = .returned (.tuple #[]) ∧ Inv w0 w' B g (qrow L (self g) vr vs 0 held limit cl true) vr vs nr ns := by
  have h := fail_row g L chk vr vs held limit cl fa w hI.rowAt hk
  rw [hI.same] at h
  exact h.mono fun e w' ⟨he, hw⟩ => ⟨he, by rw [hw]; exact hI.setRow _⟩
theorem close_here (hI : Inv w0 w B g (qrow L chk vr vs 0 held limit cl fa) vr vs nr ns) (hk : chk = .int .u64 0 ∨ chk = self g) :
    Calls Yba.prog 22 #[.pointer (some ⟨g, 0, none⟩)] w fun e w' => e = .returned (.tuple #[]) ∧ Inv w0 w' B g (qrow L (self g) vr vs 0 held limit true fa) vr vs nr ns := by
  have h := close_row g L chk vr vs held limit cl fa w hI.rowAt hk
  rw [hI.same] at h
  exact h.mono fun e w' ⟨he, hw⟩ => ⟨he, by rw [hw]; exact hI.setRow _⟩
theorem hold_here (hI : Inv w0 w B g (qrow L chk vr vs 0 held limit cl fa) vr vs nr ns) (size : Int) :
    Calls Yba.prog 16 #[.pointer (some ⟨g, 0, none⟩), .int .i64 size] w fun e w' => ∃ b held', e = .returned (.bool b) ∧ Inv w0 w' B g (qrow L chk vr vs 0 held' limit cl fa) vr vs nr ns := by
  have h := hold_row g L chk vr vs held limit size cl fa w hI.rowAt
  rw [hI.same] at h
  exact h.mono fun e w' ⟨b, held', m, he, hw⟩ => ⟨b, held', he, by rw [hw]; exact (hI.setRow _).drewN m⟩
end

/-- 'newRunQueue'. -/
theorem newq_any (limit : Int) (w : World) :
    Calls Yba.prog 15 #[.int .i64 limit] w fun e w' => e = .returned (.pointer (some ⟨w.heap.size, 0, none⟩)) ∧
      w' = w.alloc (.cells (qrow (.iface 85 (.pointer (some ⟨w.heap.size, 0, none⟩))) (.int .u64 0) (.slice none 0 0) (.slice none 0 0) 0 0 limit false false) 72) := by
  go_enter Yba.func15, Yba.ntmps15
  go_wp2
  go_ret
  exact ⟨rfl, rfl⟩

/-- The queue as a new one begins. -/
theorem newq_inv (limit : Int) (w : World) : Inv w (w.alloc (.cells (qrow (.iface 85 (.pointer (some ⟨w.heap.size, 0, none⟩))) (.int .u64 0) (.slice none 0 0) (.slice none 0 0) 0 0 limit false false) 72)) (w.heap.size + 1) w.heap.size
    (qrow (.iface 85 (.pointer (some ⟨w.heap.size, 0, none⟩))) (.int .u64 0) (.slice none 0 0) (.slice none 0 0) 0 0 limit false false) (.slice none 0 0) (.slice none 0 0) 0 0 :=
  ⟨heap_alloc_last w _, ⟨[], World.ownsRow_nil _ _ _ _⟩, ⟨[], World.ownsRow_nil _ _ _ _⟩, (fun k h => by cases h), by omega, by simp, (Below.refl _ _).alloc (Nat.le_refl _) _⟩

set_option maxHeartbeats 2000000 in
/-- 'zzs0497bbuild': whatever the steps: a queue, its lock free, nobody waiting. -/
theorem build_some (limit : Int) (b off n cap : Nat) (w : World) (hn : n ≤ 256) (hb : b < w.heap.size)
    (hc : ∀ j, j < n → ∃ x y : Int, 0 ≤ x ∧ x ≤ 255 ∧ w.cell? ⟨b, off + j * 2, none⟩ = some (.int .u8 x) ∧ w.cell? ⟨b, off + j * 2 + 1, none⟩ = some (.int .i64 y)) :
    Calls Yba.prog 11 #[.int .i64 limit, .slice (some ⟨b, off, none⟩) n cap] w fun e w' => e = .returned (.pointer (some ⟨w.heap.size, 0, none⟩)) ∧
      ∃ chk vr vs held cl fa nr ns, (chk = .int .u64 0 ∨ chk = self w.heap.size) ∧ Inv w w' (w.heap.size + 1) w.heap.size (qrow (.iface 85 (.pointer (some ⟨w.heap.size, 0, none⟩))) chk vr vs 0 held limit cl fa) vr vs nr ns := by
  have hq := newq_inv limit w
  have HQ : Hid (Inv w (w.alloc (.cells (qrow (.iface 85 (.pointer (some ⟨w.heap.size, 0, none⟩))) (.int .u64 0) (.slice none 0 0) (.slice none 0 0) 0 0 limit false false) 72)) (w.heap.size + 1) w.heap.size
    (qrow (.iface 85 (.pointer (some ⟨w.heap.size, 0, none⟩))) (.int .u64 0) (.slice none 0 0) (.slice none 0 0) 0 0 limit false false) (.slice none 0 0) (.slice none 0 0) 0 0) := hq
  have HC : Hid (∀ j, j < n → ∃ x y : Int, 0 ≤ x ∧ x ≤ 255 ∧ w.cell? ⟨b, off + j * 2, none⟩ = some (.int .u8 x) ∧ w.cell? ⟨b, off + j * 2 + 1, none⟩ = some (.int .i64 y)) := hc
  clear hq hc
  go_enter Yba.func11, Yba.ntmps11
  go_wp2_with fail
  refine (newq_any limit w).mono ?_
  rintro e w' ⟨rfl, rfl⟩
  go_wp2_with fail
  go_loopw [6] (fun i wr => ∃ k : Nat, k ≤ n ∧ i = .int .i64 k ∧ ∃ chk vr vs held cl fa nr ns, (chk = .int .u64 0 ∨ chk = self w.heap.size) ∧ nr ≤ k ∧ ns ≤ k ∧
      Inv w wr (w.heap.size + 1) w.heap.size (qrow (.iface 85 (.pointer (some ⟨w.heap.size, 0, none⟩))) chk vr vs 0 held limit cl fa) vr vs nr ns) (fun i _ => n - (intOf i).toNat)
  case atStart => exact ⟨0, Nat.zero_le _, rfl, _, _, _, _, _, _, 0, 0, .inl rfl, by omega, by omega, HQ.out⟩
  case round =>
    obtain ⟨k, hk, rfl, chk, vr, vs, held, cl, fa, nr, ns, hck, hnr, hns, hI⟩ := hrel
    clear HQ
    by_cases hlt : k < n
    · obtain ⟨x, y, hx0, hx1, cx, cy⟩ := HC.out k hlt
      have cx' : wr.cell? ⟨b, off + k * 2, none⟩ = some (.int .u8 x) := (hI.old.cell (p := ⟨b, off + k * 2, none⟩) hb).trans cx
      have cy' : wr.cell? ⟨b, off + k * 2 + 1, none⟩ = some (.int .i64 y) := (hI.old.cell (p := ⟨b, off + k * 2 + 1, none⟩) hb).trans cy
      have hbw : b < wr.heap.size := by have := hI.old.size; omega
      have HI : Hid (Inv w wr (w.heap.size + 1) w.heap.size (qrow (.iface 85 (.pointer (some ⟨w.heap.size, 0, none⟩))) chk vr vs 0 held limit cl fa) vr vs nr ns) := hI
      have HK : Hid (chk = .int .u64 0 ∨ chk = self w.heap.size) := hck
      clear hI hck cx cy
      have h5 : x % 5 = 0 ∨ x % 5 = 1 ∨ x % 5 = 2 ∨ x % 5 = 3 ∨ x % 5 = 4 := by omega
      rcases h5 with h5 | h5 | h5 | h5 | h5
      · go_wp2_with fail
        refine (hold_here (HI.out.alloc _) y).mono ?_
        rintro e w1 ⟨b', held', rfl, hI1⟩
        have HI1 : Hid (Inv w w1 (w.heap.size + 1) w.heap.size (qrow (.iface 85 (.pointer (some ⟨w.heap.size, 0, none⟩))) chk vr vs 0 held' limit cl fa) vr vs nr ns) := hI1
        clear hI1 cx' cy' hbw
        go_wp2
        go_roundw
        case rel => exact ⟨k + 1, by omega, by go_num, _, _, _, _, _, _, nr, ns, HK.out, by omega, by omega, HI1.out⟩
        case measure => simp [intOf]; omega
      · go_wp2_with fail
        refine (release_here (HI.out.alloc _) HK.out y).mono ?_
        rintro e w1 ⟨rfl, hI1⟩
        have HI1 : Hid (Inv w w1 (w.heap.size + 1) w.heap.size (qrow (.iface 85 (.pointer (some ⟨w.heap.size, 0, none⟩))) (self w.heap.size) vr vs 0 (wrap64 (held - y)) limit cl fa) vr vs nr ns) := hI1
        clear hI1 cx' cy' hbw
        go_wp2
        go_roundw
        case rel => exact ⟨k + 1, by omega, by go_num, _, _, _, _, _, _, nr, ns, .inr rfl, by omega, by omega, HI1.out⟩
        case measure => simp [intOf]; omega
      · go_wp2_with fail
        refine (put_here (HI.out.alloc _) HK.out (by omega) (by omega) y).mono ?_
        rintro e w1 ⟨rfl, vr', vs', hI1⟩
        have HI1 : Hid (Inv w w1 (w.heap.size + 1) w.heap.size (qrow (.iface 85 (.pointer (some ⟨w.heap.size, 0, none⟩))) (self w.heap.size) vr' vs' 0 held limit cl fa) vr' vs' (nr + 1) (ns + 1)) := hI1
        clear hI1 cx' cy' hbw
        go_wp2
        go_roundw
        case rel => exact ⟨k + 1, by omega, by go_num, _, _, _, _, _, _, nr + 1, ns + 1, .inr rfl, by omega, by omega, HI1.out⟩
        case measure => simp [intOf]; omega
      · go_wp2_with fail
        refine (fail_here (HI.out.alloc _) HK.out).mono ?_
        rintro e w1 ⟨rfl, hI1⟩
        have HI1 : Hid (Inv w w1 (w.heap.size + 1) w.heap.size (qrow (.iface 85 (.pointer (some ⟨w.heap.size, 0, none⟩))) (self w.heap.size) vr vs 0 held limit cl true) vr vs nr ns) := hI1
        clear hI1 cx' cy' hbw
        go_wp2
        go_roundw
        case rel => exact ⟨k + 1, by omega, by go_num, _, _, _, _, _, _, nr, ns, .inr rfl, by omega, by omega, HI1.out⟩
        case measure => simp [intOf]; omega
      · go_wp2_with fail
        refine (close_here (HI.out.alloc _) HK.out).mono ?_
        rintro e w1 ⟨rfl, hI1⟩
        have HI1 : Hid (Inv w w1 (w.heap.size + 1) w.heap.size (qrow (.iface 85 (.pointer (some ⟨w.heap.size, 0, none⟩))) (self w.heap.size) vr vs 0 held limit true fa) vr vs nr ns) := hI1
        clear hI1 cx' cy' hbw
        go_wp2
        go_roundw
        case rel => exact ⟨k + 1, by omega, by go_num, _, _, _, _, _, _, nr, ns, .inr rfl, by omega, by omega, HI1.out⟩
        case measure => simp [intOf]; omega
    · have HI : Hid (Inv w wr (w.heap.size + 1) w.heap.size (qrow (.iface 85 (.pointer (some ⟨w.heap.size, 0, none⟩))) chk vr vs 0 held limit cl fa) vr vs nr ns) := hI
      have HK : Hid (chk = .int .u64 0 ∨ chk = self w.heap.size) := hck
      clear hI hck
      go_wp2
      go_ret
      exact ⟨rfl, chk, vr, vs, held, cl, fa, nr, ns, HK.out, HI.out⟩

/-- 'zzs0497bbuild' of no steps. -/
theorem build_none (limit : Int) (a : Option Addr) (cap : Nat) (w : World) :
    Calls Yba.prog 11 #[.int .i64 limit, .slice a 0 cap] w fun e w' => e = .returned (.pointer (some ⟨w.heap.size, 0, none⟩)) ∧
      ∃ chk vr vs held cl fa nr ns, (chk = .int .u64 0 ∨ chk = self w.heap.size) ∧ Inv w w' (w.heap.size + 1) w.heap.size (qrow (.iface 85 (.pointer (some ⟨w.heap.size, 0, none⟩))) chk vr vs 0 held limit cl fa) vr vs nr ns := by
  have hq := newq_inv limit w
  have HQ : Hid (Inv w (w.alloc (.cells (qrow (.iface 85 (.pointer (some ⟨w.heap.size, 0, none⟩))) (.int .u64 0) (.slice none 0 0) (.slice none 0 0) 0 0 limit false false) 72)) (w.heap.size + 1) w.heap.size
    (qrow (.iface 85 (.pointer (some ⟨w.heap.size, 0, none⟩))) (.int .u64 0) (.slice none 0 0) (.slice none 0 0) 0 0 limit false false) (.slice none 0 0) (.slice none 0 0) 0 0) := hq
  clear hq
  go_enter Yba.func11, Yba.ntmps11
  go_wp2_with fail
  refine (newq_any limit w).mono ?_
  rintro e w' ⟨rfl, rfl⟩
  go_wp2_with fail
  go_loopw [6] (fun i wr => i = .int .i64 0 ∧ wr = w.alloc (.cells (qrow (.iface 85 (.pointer (some ⟨w.heap.size, 0, none⟩))) (.int .u64 0) (.slice none 0 0) (.slice none 0 0) 0 0 limit false false) 72)) (fun _ _ => 0)
  case atStart => exact ⟨rfl, rfl⟩
  case round =>
    obtain ⟨rfl, rfl⟩ := hrel
    go_wp2
    go_ret
    exact ⟨rfl, _, _, _, _, _, _, 0, 0, .inl rfl, HQ.out⟩
end Go.Proofs.Ybulkjgq
