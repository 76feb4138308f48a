/-
  No cell of these rows narrows 'for every input' (looked for: loops, veiled, ifaces, maps, wideKeys, modest, calm, conditions, laid).
  DERIVED. THE GIVEN ROWS OF THIS SEAT. 5 by the template 'for every input the law returns true; each argument reads behind the call as it read before'; 0 by the template 'total and deterministic' (their statements: YbulkjfaTotals.lean).
  GIVEN WITH THE SEED: the statements are not yours to turn. If you find one false, say at which input.
  Laid BY PROGRAM, IN A SANDBOX (cutbox-rows.mjs): the forced cells as the released guide's own fill.sh prints them over the translation 433ff37292ba997d… (all of the seat's roots in one cut). By AI agents, Wed Nov 11 2026. No macro, syntax, notation, axiom, sorry.
-/
import Derived.Test.YbulkjfaChecked
import GoSem.Claim
import GoSem.ClaimJoined
import GoSem.ClaimMapViews
import Derived.JoinedTies
import Derived.KernelRfl
namespace Go.Proofs.Ybulkjfa
/- THE CELL 'sum', in the pinned program and in every row, IS THE sha256 OF THE DUMP (.gsa) THAT YbulkjfaProg.lean LOADS. Nothing in Lean hashes anything: it is a label: what it is worth is what the hold of that sum in a sandbox is worth. -/
noncomputable def Yba.pinned : Pinned := { name := "ybulkjfa", sum := "433ff37292ba997dc340f5b6fc72bbd1ecf397b43d7a056b606e5f0162c63320", checked := Yba.checked }
namespace Rows
def none {H : Type} : Left H := { results := [], args := [] }

/-- 'sim.LawS0494BExact': WHATEVER THE INPUT: true; the input reads as it did. -/
def lawS0494BExactSpec : ChangeSpec := { name := "lawS0494BExact", fn := fun _ => fun
  | [d1, d2, d3, d4, d5, d6, d7, d8, d9, d10, d11] => { results := [.lit (.bool true)], args := [d1, d2, d3, d4, d5, d6, d7, d8, d9, d10, d11] }
  | _ => none }
def lawS0494BExactRow : OpenClaim := { program := "ybulkjfa", sum := "433ff37292ba997dc340f5b6fc72bbd1ecf397b43d7a056b606e5f0162c63320", func := "example.com/jumpmark/jumpmark/internal/sim.LawS0494BExact", spec := "lawS0494BExact", apart := false }
def LawS0494BExactSaid : Prop := lawS0494BExactRow.holds Yba.pinned (OpenSpec.ofChange lawS0494BExactSpec)

/-- ITS FALSE NEIGHBOUR: 'it returns false'. Refute it at one input. -/
def lawS0494BExactWrong : ChangeSpec := { name := "lawS0494BExact", fn := fun _ => fun
  | [d1, d2, d3, d4, d5, d6, d7, d8, d9, d10, d11] => { results := [.lit (.bool false)], args := [d1, d2, d3, d4, d5, d6, d7, d8, d9, d10, d11] }
  | _ => none }
def LawS0494BExactWrongFalsely : Prop := lawS0494BExactRow.holds Yba.pinned (OpenSpec.ofChange lawS0494BExactWrong)

/-- 'sim.LawS0494BAdd': WHATEVER THE INPUT: true; the input reads as it did. -/
def lawS0494BAddSpec : ChangeSpec := { name := "lawS0494BAdd", fn := fun _ => fun
  | [d1, d2, d3, d4, d5, d6, d7, d8, d9, d10, d11] => { results := [.lit (.bool true)], args := [d1, d2, d3, d4, d5, d6, d7, d8, d9, d10, d11] }
  | _ => none }
def lawS0494BAddRow : OpenClaim := { program := "ybulkjfa", sum := "433ff37292ba997dc340f5b6fc72bbd1ecf397b43d7a056b606e5f0162c63320", func := "example.com/jumpmark/jumpmark/internal/sim.LawS0494BAdd", spec := "lawS0494BAdd", apart := false }
def LawS0494BAddSaid : Prop := lawS0494BAddRow.holds Yba.pinned (OpenSpec.ofChange lawS0494BAddSpec)

/-- ITS FALSE NEIGHBOUR: 'it returns false'. Refute it at one input. -/
def lawS0494BAddWrong : ChangeSpec := { name := "lawS0494BAdd", fn := fun _ => fun
  | [d1, d2, d3, d4, d5, d6, d7, d8, d9, d10, d11] => { results := [.lit (.bool false)], args := [d1, d2, d3, d4, d5, d6, d7, d8, d9, d10, d11] }
  | _ => none }
def LawS0494BAddWrongFalsely : Prop := lawS0494BAddRow.holds Yba.pinned (OpenSpec.ofChange lawS0494BAddWrong)

/-- 'sim.LawS0494BLeapCount': WHATEVER THE INPUT: true; the input reads as it did. -/
def lawS0494BLeapCountSpec : ChangeSpec := { name := "lawS0494BLeapCount", fn := fun _ => fun
  | [d1, d2, d3, d4, d5] => { results := [.lit (.bool true)], args := [d1, d2, d3, d4, d5] }
  | _ => none }
def lawS0494BLeapCountRow : OpenClaim := { program := "ybulkjfa", sum := "433ff37292ba997dc340f5b6fc72bbd1ecf397b43d7a056b606e5f0162c63320", func := "example.com/jumpmark/jumpmark/internal/sim.LawS0494BLeapCount", spec := "lawS0494BLeapCount", apart := false }
def LawS0494BLeapCountSaid : Prop := lawS0494BLeapCountRow.holds Yba.pinned (OpenSpec.ofChange lawS0494BLeapCountSpec)

/-- ITS FALSE NEIGHBOUR: 'it returns false'. Refute it at one input. -/
def lawS0494BLeapCountWrong : ChangeSpec := { name := "lawS0494BLeapCount", fn := fun _ => fun
  | [d1, d2, d3, d4, d5] => { results := [.lit (.bool false)], args := [d1, d2, d3, d4, d5] }
  | _ => none }
def LawS0494BLeapCountWrongFalsely : Prop := lawS0494BLeapCountRow.holds Yba.pinned (OpenSpec.ofChange lawS0494BLeapCountWrong)

/-- 'sim.LawS0494CHead': WHATEVER THE INPUT: true; the input reads as it did. -/
def lawS0494CHeadSpec : ChangeSpec := { name := "lawS0494CHead", fn := fun _ => fun
  | [d1, d2, d3] => { results := [.lit (.bool true)], args := [d1, d2, d3] }
  | _ => none }
def lawS0494CHeadRow : OpenClaim := { program := "ybulkjfa", sum := "433ff37292ba997dc340f5b6fc72bbd1ecf397b43d7a056b606e5f0162c63320", func := "example.com/jumpmark/jumpmark/internal/sim.LawS0494CHead", spec := "lawS0494CHead", apart := false }
def LawS0494CHeadSaid : Prop := lawS0494CHeadRow.holds Yba.pinned (OpenSpec.ofChange lawS0494CHeadSpec)

/-- ITS FALSE NEIGHBOUR: 'it returns false'. Refute it at one input. -/
def lawS0494CHeadWrong : ChangeSpec := { name := "lawS0494CHead", fn := fun _ => fun
  | [d1, d2, d3] => { results := [.lit (.bool false)], args := [d1, d2, d3] }
  | _ => none }
def LawS0494CHeadWrongFalsely : Prop := lawS0494CHeadRow.holds Yba.pinned (OpenSpec.ofChange lawS0494CHeadWrong)

/-- 'sim.LawS0494CAfterPops': WHATEVER THE INPUT: true; the input reads as it did. -/
def lawS0494CAfterPopsSpec : ChangeSpec := { name := "lawS0494CAfterPops", fn := fun _ => fun
  | [d1, d2] => { results := [.lit (.bool true)], args := [d1, d2] }
  | _ => none }
def lawS0494CAfterPopsRow : OpenClaim := { program := "ybulkjfa", sum := "433ff37292ba997dc340f5b6fc72bbd1ecf397b43d7a056b606e5f0162c63320", func := "example.com/jumpmark/jumpmark/internal/sim.LawS0494CAfterPops", spec := "lawS0494CAfterPops", apart := false }
def LawS0494CAfterPopsSaid : Prop := lawS0494CAfterPopsRow.holds Yba.pinned (OpenSpec.ofChange lawS0494CAfterPopsSpec)

/-- ITS FALSE NEIGHBOUR: 'it returns false'. Refute it at one input. -/
def lawS0494CAfterPopsWrong : ChangeSpec := { name := "lawS0494CAfterPops", fn := fun _ => fun
  | [d1, d2] => { results := [.lit (.bool false)], args := [d1, d2] }
  | _ => none }
def LawS0494CAfterPopsWrongFalsely : Prop := lawS0494CAfterPopsRow.holds Yba.pinned (OpenSpec.ofChange lawS0494CAfterPopsWrong)

end Rows
end Go.Proofs.Ybulkjfa
