/-
  No cell of these rows narrows 'for every input' (looked for: loops, veiled, ifaces, maps, wideKeys, modest, calm, conditions, laid).
  DERIVED. THE GIVEN ROWS OF THIS SEAT. 4 by the template 'for every input the law returns true; each argument reads behind the call as it read before'; 0 by the template 'total and deterministic' (their statements: YbulkjgqTotals.lean).
  GIVEN WITH THE SEED: the statements are not yours to turn. If you find one false, say at which input.
  Laid BY PROGRAM, IN A SANDBOX (cutbox-rows.mjs): the forced cells as the released guide's own fill.sh prints them over the translation 984b1d2f9ce85ca7… (all of the seat's roots in one cut). By AI agents, Wed Nov 11 2026. No macro, syntax, notation, axiom, sorry.
-/
import Derived.Test.YbulkjgqChecked
import GoSem.Claim
import GoSem.ClaimJoined
import GoSem.ClaimMapViews
import Derived.JoinedTies
import Derived.KernelRfl
namespace Go.Proofs.Ybulkjgq
/- THE CELL 'sum', in the pinned program and in every row, IS THE sha256 OF THE DUMP (.gsa) THAT YbulkjgqProg.lean LOADS. Nothing in Lean hashes anything: it is a label: what it is worth is what the hold of that sum in a sandbox is worth. -/
noncomputable def Yba.pinned : Pinned := { name := "ybulkjgq", sum := "984b1d2f9ce85ca733ce693af4be90a54bd47df69800658bf9f91efc349a91b9", checked := Yba.checked }
namespace Rows
def none {H : Type} : Left H := { results := [], args := [] }

/-- 'rootweave.LawS0497AContested': WHATEVER THE INPUT: true; the input reads as it did. -/
def lawS0497AContestedSpec : ChangeSpec := { name := "lawS0497AContested", fn := fun _ => fun
  | [d] => { results := [.lit (.bool true)], args := [d] }
  | _ => none }
def lawS0497AContestedRow : OpenClaim := { program := "ybulkjgq", sum := "984b1d2f9ce85ca733ce693af4be90a54bd47df69800658bf9f91efc349a91b9", func := "example.com/rootweave/rootweave.LawS0497AContested", spec := "lawS0497AContested", inPlace := ["internal/bytealg.Compare"], unfollowed := true, recurses := true, plainKeys := false, apart := false }
def LawS0497AContestedSaid : Prop := lawS0497AContestedRow.holds Yba.pinned (OpenSpec.ofChange lawS0497AContestedSpec)

/-- ITS FALSE NEIGHBOUR: 'it returns false'. Refute it at one input. -/
def lawS0497AContestedWrong : ChangeSpec := { name := "lawS0497AContested", fn := fun _ => fun
  | [d] => { results := [.lit (.bool false)], args := [d] }
  | _ => none }
def LawS0497AContestedWrongFalsely : Prop := lawS0497AContestedRow.holds Yba.pinned (OpenSpec.ofChange lawS0497AContestedWrong)

/-- 'rootweave.LawS0497ALists': WHATEVER THE INPUT: true; the input reads as it did. -/
def lawS0497AListsSpec : ChangeSpec := { name := "lawS0497ALists", fn := fun _ => fun
  | [d] => { results := [.lit (.bool true)], args := [d] }
  | _ => none }
def lawS0497AListsRow : OpenClaim := { program := "ybulkjgq", sum := "984b1d2f9ce85ca733ce693af4be90a54bd47df69800658bf9f91efc349a91b9", func := "example.com/rootweave/rootweave.LawS0497ALists", spec := "lawS0497ALists", inPlace := ["internal/bytealg.Compare"], unfollowed := true, recurses := true, plainKeys := false, apart := false }
def LawS0497AListsSaid : Prop := lawS0497AListsRow.holds Yba.pinned (OpenSpec.ofChange lawS0497AListsSpec)

/-- ITS FALSE NEIGHBOUR: 'it returns false'. Refute it at one input. -/
def lawS0497AListsWrong : ChangeSpec := { name := "lawS0497ALists", fn := fun _ => fun
  | [d] => { results := [.lit (.bool false)], args := [d] }
  | _ => none }
def LawS0497AListsWrongFalsely : Prop := lawS0497AListsRow.holds Yba.pinned (OpenSpec.ofChange lawS0497AListsWrong)

/-- 'rootweave.LawS0497BCount': WHATEVER THE INPUT: true; the input reads as it did. -/
def lawS0497BCountSpec : ChangeSpec := { name := "lawS0497BCount", fn := fun _ => fun
  | [d1, d2, d3] => { results := [.lit (.bool true)], args := [d1, d2, d3] }
  | _ => none }
def lawS0497BCountRow : OpenClaim := { program := "ybulkjgq", sum := "984b1d2f9ce85ca733ce693af4be90a54bd47df69800658bf9f91efc349a91b9", func := "example.com/rootweave/rootweave.LawS0497BCount", spec := "lawS0497BCount", inPlace := ["(*internal/sync.Mutex).Lock", "internal/race.Disable", "sync/atomic.CompareAndSwapInt32", "internal/race.Enable", "internal/race.Acquire", "(*internal/sync.Mutex).lockSlow", "internal/sync.runtime_canSpin", "internal/sync.runtime_doSpin", "internal/sync.throw", "internal/sync.runtime_nanotime", "internal/sync.runtime_SemacquireMutex", "sync/atomic.AddInt32", "(*internal/sync.Mutex).Unlock", "internal/race.ReleaseMerge", "(*internal/sync.Mutex).unlockSlow", "internal/sync.fatal", "internal/sync.runtime_Semrelease", "(*sync.Cond).Broadcast", "(*sync.copyChecker).check", "sync.runtime_notifyListNotifyAll", "(*internal/sync.Mutex).TryLock"], plainKeys := false, apart := false }
def LawS0497BCountSaid : Prop := lawS0497BCountRow.holds Yba.pinned (OpenSpec.ofChange lawS0497BCountSpec)

/-- ITS FALSE NEIGHBOUR: 'it returns false'. Refute it at one input. -/
def lawS0497BCountWrong : ChangeSpec := { name := "lawS0497BCount", fn := fun _ => fun
  | [d1, d2, d3] => { results := [.lit (.bool false)], args := [d1, d2, d3] }
  | _ => none }
def LawS0497BCountWrongFalsely : Prop := lawS0497BCountRow.holds Yba.pinned (OpenSpec.ofChange lawS0497BCountWrong)

/-- 'rootweave.LawS0497BBalance': WHATEVER THE INPUT: true; the input reads as it did. -/
def lawS0497BBalanceSpec : ChangeSpec := { name := "lawS0497BBalance", fn := fun _ => fun
  | [d1, d2] => { results := [.lit (.bool true)], args := [d1, d2] }
  | _ => none }
def lawS0497BBalanceRow : OpenClaim := { program := "ybulkjgq", sum := "984b1d2f9ce85ca733ce693af4be90a54bd47df69800658bf9f91efc349a91b9", func := "example.com/rootweave/rootweave.LawS0497BBalance", spec := "lawS0497BBalance", inPlace := ["(*internal/sync.Mutex).Lock", "internal/race.Disable", "sync/atomic.CompareAndSwapInt32", "internal/race.Enable", "internal/race.Acquire", "(*internal/sync.Mutex).lockSlow", "internal/sync.runtime_canSpin", "internal/sync.runtime_doSpin", "internal/sync.throw", "internal/sync.runtime_nanotime", "internal/sync.runtime_SemacquireMutex", "sync/atomic.AddInt32", "(*internal/sync.Mutex).Unlock", "internal/race.ReleaseMerge", "(*internal/sync.Mutex).unlockSlow", "internal/sync.fatal", "internal/sync.runtime_Semrelease", "(*sync.Cond).Broadcast", "(*sync.copyChecker).check", "sync.runtime_notifyListNotifyAll"], plainKeys := false, apart := false }
def LawS0497BBalanceSaid : Prop := lawS0497BBalanceRow.holds Yba.pinned (OpenSpec.ofChange lawS0497BBalanceSpec)

/-- ITS FALSE NEIGHBOUR: 'it returns false'. Refute it at one input. -/
def lawS0497BBalanceWrong : ChangeSpec := { name := "lawS0497BBalance", fn := fun _ => fun
  | [d1, d2] => { results := [.lit (.bool false)], args := [d1, d2] }
  | _ => none }
def LawS0497BBalanceWrongFalsely : Prop := lawS0497BBalanceRow.holds Yba.pinned (OpenSpec.ofChange lawS0497BBalanceWrong)

end Rows
end Go.Proofs.Ybulkjgq
