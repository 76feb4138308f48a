/-
  sync.Cond's Broadcast and sync.Mutex's TryLock, ONE GOROUTINE: the copy check's entry, the wake-up's entry where nobody waits, and the two methods' contracts.
-/
import Derived.Test.YbulkjgqRows
import Derived.Test.YbulkjgqLocks
import Derived.WalkKit
import Derived.Defers
import Derived.Laws.Pointers
namespace Go.Proofs.Ybulkjgq
open Go.RowKit Go.MuLone

/-- The copy check at its first use: the checker comes to hold its own address. -/
theorem run_check_new (c : Addr) (w : World) (hc : w.cell? c = some (.int .u64 0)) (hz : w.frozen? c = false) :
    (callFunc 32 #[.pointer (some c)]).run Yba.prog w = .ok (.value (.tuple #[])) (w.setCell c (.pointer (some c))) := by
  rw [run_callFunc_extern (e := Extern.SyncCond.check) Yba.func32 (by kernel_rfl) (by kernel_rfl) (by kernel_rfl) (by kernel_rfl)]
  delta Extern.SyncCond.check Extern.SyncCond.check.match_3
  dsimp [Array.getLit]
  simp [Extern.SyncCond.isSelf, Extern.SyncCond.none_, asAddr, hc, hz, run_store Yba.prog w c (.pointer (some c)) .atomic rfl, Result.andThen]

/-- The copy check later on: the checker holds its own address. -/
theorem run_check_self (c : Addr) (w : World) (hc : w.cell? c = some (.pointer (some c))) :
    (callFunc 32 #[.pointer (some c)]).run Yba.prog w = .ok (.value (.tuple #[])) w := by
  rw [run_callFunc_extern (e := Extern.SyncCond.check) Yba.func32 (by kernel_rfl) (by kernel_rfl) (by kernel_rfl) (by kernel_rfl)]
  delta Extern.SyncCond.check Extern.SyncCond.check.match_3
  dsimp [Array.getLit]
  simp [Extern.SyncCond.isSelf, Extern.SyncCond.none_, asAddr, hc, Result.andThen]

/-- The wake-up where no ticket was ever drawn: nothing. -/
theorem run_notifyAll_none (l : Addr) (w : World) (h0 : w.cell? (l.add 0) = some (.int .u32 0)) (h1 : w.cell? (l.add 1) = some (.int .u32 0)) :
    (callFunc 33 #[.pointer (some l)]).run Yba.prog w = .ok (.value (.tuple #[])) w := by
  rw [run_callFunc_extern (e := Extern.SyncCond.notifyAll) Yba.func33 (by kernel_rfl) (by kernel_rfl) (by kernel_rfl) (by kernel_rfl)]
  simp [Extern.SyncCond.notifyAll, Extern.SyncCond.list, Extern.SyncCond.counter, Extern.SyncCond.none_, h0, h1, show IntKind.u32.wrap 0 = 0 from rfl, Result.andThen]

/-- Broadcast of a Cond that has not been used: its checker comes to hold its own address. -/
theorem bcast_new (g : Nat) (w : World) (h3 : w.cell? ⟨g, 3, none⟩ = some (.int .u32 0)) (h4 : w.cell? ⟨g, 4, none⟩ = some (.int .u32 0)) (h8 : w.cell? ⟨g, 8, none⟩ = some (.int .u64 0)) (f8 : w.frozen? ⟨g, 8, none⟩ = false) :
    Calls Yba.prog 24 #[.pointer (some ⟨g, 2, none⟩)] w fun e w' => e = .returned (.tuple #[]) ∧ w' = w.setCell ⟨g, 8, none⟩ (.pointer (some ⟨g, 8, none⟩)) := by
  have hk := run_check_new ⟨g, 8, none⟩ w h8 f8
  have hn := run_notifyAll_none ⟨g, 3, none⟩ (w.setCell ⟨g, 8, none⟩ (.pointer (some ⟨g, 8, none⟩)))
    ((World.cell?_setCell_other _ ⟨g, 8, none⟩ ⟨g, 3, none⟩ _ (by simp)).trans h3) ((World.cell?_setCell_other _ ⟨g, 8, none⟩ ⟨g, 4, none⟩ _ (by simp)).trans h4)
  go_enter Yba.func24, Yba.ntmps24
  go_wp2
  go_end0
  exact ⟨rfl, rfl⟩

/-- Broadcast of a Cond that has been used before: nothing turns. -/
theorem bcast_self (g : Nat) (w : World) (h3 : w.cell? ⟨g, 3, none⟩ = some (.int .u32 0)) (h4 : w.cell? ⟨g, 4, none⟩ = some (.int .u32 0)) (h8 : w.cell? ⟨g, 8, none⟩ = some (.pointer (some ⟨g, 8, none⟩))) :
    Calls Yba.prog 24 #[.pointer (some ⟨g, 2, none⟩)] w fun e w' => e = .returned (.tuple #[]) ∧ w' = w := by
  have hk := run_check_self ⟨g, 8, none⟩ w h8
  have hn := run_notifyAll_none ⟨g, 3, none⟩ w h3 h4
  go_enter Yba.func24, Yba.ntmps24
  go_wp2
  go_end0
  exact ⟨rfl, rfl⟩

/-- The lock's address made into a bare one, for the race mark, where a cell stands at it: the same address. -/
theorem run_conv (a : Addr) (v : Value) (w : World) (hc : w.cell? a = some v) : (convert 94 63 (.pointer (some a))).run Yba.prog w = .ok (.pointer (some a)) w := by
  obtain ⟨e, n, hsh, hlt, hsp⟩ := World.shape?_of_cell? hc
  obtain ⟨i, hi, hz0⟩ := Option.map_eq_some_iff.1 Yba.muLib.room_tIMutex
  have hz : i.size ≠ 0 := by simpa using hz0
  have hge : ¬ (n ≤ a.off) := by omega
  simp only [convert, Sem.run_bind, run_underlying Yba.underlying94, run_underlying Yba.underlying63, Result.andThen_ok]
  refine Eq.trans (show _ = Sem.run Yba.prog (bind (underlying 94) _) w from rfl) ?_
  simp [run_underlying Yba.underlying94, run_underlying Yba.underlying63, Conv.seenAt, viewAt, cellsIn, sizeOf, typeInfo, hi, hz, hsh, hge, Result.andThen]

set_option maxRecDepth 100000 in
set_option maxHeartbeats 800000 in
/-- '(*internal/sync.Mutex).TryLock', the lock free: it is taken. -/
theorem itry_free (a : Addr) (w : World) (hc : w.cell? a = some (.int .i32 0)) (hz : w.frozen? a = false) :
    Calls Yba.prog 25 #[.pointer (some a)] w fun e w' => e = .returned (.bool true) ∧ w' = w.setCell a (.int .i32 1) := by
  have hd : ∀ w, (callFunc 34 #[]).run Yba.prog w = .ok (.value (.tuple #[])) w := disable Yba.muLib
  have he : ∀ w, (callFunc 35 #[]).run Yba.prog w = .ok (.value (.tuple #[])) w := enable Yba.muLib
  have ha : ∀ a w, (callFunc 37 #[.pointer (some a)]).run Yba.prog w = .ok (.value (.tuple #[])) w := acquire Yba.muLib
  have hcs := run_call_cas_hit (P := Yba.prog) Yba.func36 (by kernel_rfl) (by kernel_rfl) (by kernel_rfl) .i32 (by kernel_rfl) (y := 1) hc hz
  have hcv := run_conv a _ _ (World.cell?_setCell_same w a (.int .i32 1) hc)
  go_enter Yba.func25, Yba.ntmps25
  go_wp2
  go_ret
  exact ⟨rfl, rfl⟩

/-- '(*sync.Mutex).TryLock', the lock free: it is taken. -/
theorem try_free (g : Nat) (w : World) (hc : w.cell? ⟨g, 0, none⟩ = some (.int .i32 0)) (hz : w.frozen? ⟨g, 0, none⟩ = false) :
    Calls Yba.prog 13 #[.pointer (some ⟨g, 0, none⟩)] w fun e w' => e = .returned (.bool true) ∧ w' = w.setCell ⟨g, 0, none⟩ (.int .i32 1) := by
  go_enter Yba.func13, Yba.ntmps13
  go_wp2_with fail
  refine (itry_free ⟨g, 0, none⟩ w hc hz).mono ?_
  rintro e w' ⟨rfl, rfl⟩
  go_wp2
  go_ret
  exact ⟨rfl, rfl⟩
end Go.Proofs.Ybulkjgq
