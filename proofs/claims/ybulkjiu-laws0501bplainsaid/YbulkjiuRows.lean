/-
  No cell of these rows narrows 'for every input' (looked for: loops, veiled, ifaces, maps, wideKeys, modest, calm, conditions, laid).
  DERIVED. THE GIVEN ROWS OF THIS SEAT. 2 by the template 'for every input the law returns true; each argument reads behind the call as it read before'; 0 by the template 'total and deterministic' (their statements: YbulkjiuTotals.lean).
  GIVEN WITH THE SEED: the statements are not yours to turn. If you find one false, say at which input.
  Laid BY PROGRAM, IN A SANDBOX (cutbox-rows.mjs): the forced cells as the released guide's own fill.sh prints them over the translation d5e9dfe2b22a8a78… (all of the seat's roots in one cut). By AI agents, Wed Nov 11 2026. No macro, syntax, notation, axiom, sorry.
-/
import Derived.Test.YbulkjiuChecked
import GoSem.Claim
import GoSem.ClaimJoined
import GoSem.ClaimMapViews
import Derived.JoinedTies
import Derived.KernelRfl
namespace Go.Proofs.Ybulkjiu
/- THE CELL 'sum', in the pinned program and in every row, IS THE sha256 OF THE DUMP (.gsa) THAT YbulkjiuProg.lean LOADS. Nothing in Lean hashes anything: it is a label: what it is worth is what the hold of that sum in a sandbox is worth. -/
noncomputable def Yba.pinned : Pinned := { name := "ybulkjiu", sum := "d5e9dfe2b22a8a78117b286d4e2e53ed85b992225edae47f85242379e46b191d", checked := Yba.checked }
namespace Rows
def none {H : Type} : Left H := { results := [], args := [] }

/-- 'stave.LawS0501BPlain': WHATEVER THE INPUT: true; the input reads as it did. -/
def lawS0501BPlainSpec : ChangeSpec := { name := "lawS0501BPlain", fn := fun _ => fun
  | [d1, d2, d3, d4] => { results := [.lit (.bool true)], args := [d1, d2, d3, d4] }
  | _ => none }
def lawS0501BPlainRow : OpenClaim := { program := "ybulkjiu", sum := "d5e9dfe2b22a8a78117b286d4e2e53ed85b992225edae47f85242379e46b191d", func := "example.com/stave/stave.LawS0501BPlain", spec := "lawS0501BPlain", apart := false }
def LawS0501BPlainSaid : Prop := lawS0501BPlainRow.holds Yba.pinned (OpenSpec.ofChange lawS0501BPlainSpec)

/-- ITS FALSE NEIGHBOUR: 'it returns false'. Refute it at one input. -/
def lawS0501BPlainWrong : ChangeSpec := { name := "lawS0501BPlain", fn := fun _ => fun
  | [d1, d2, d3, d4] => { results := [.lit (.bool false)], args := [d1, d2, d3, d4] }
  | _ => none }
def LawS0501BPlainWrongFalsely : Prop := lawS0501BPlainRow.holds Yba.pinned (OpenSpec.ofChange lawS0501BPlainWrong)

/-- 'stave.LawS0501BSize': WHATEVER THE INPUT: true; the input reads as it did. -/
def lawS0501BSizeSpec : ChangeSpec := { name := "lawS0501BSize", fn := fun _ => fun
  | [d1, d2, d3] => { results := [.lit (.bool true)], args := [d1, d2, d3] }
  | _ => none }
def lawS0501BSizeRow : OpenClaim := { program := "ybulkjiu", sum := "d5e9dfe2b22a8a78117b286d4e2e53ed85b992225edae47f85242379e46b191d", func := "example.com/stave/stave.LawS0501BSize", spec := "lawS0501BSize", apart := false }
def LawS0501BSizeSaid : Prop := lawS0501BSizeRow.holds Yba.pinned (OpenSpec.ofChange lawS0501BSizeSpec)

/-- ITS FALSE NEIGHBOUR: 'it returns false'. Refute it at one input. -/
def lawS0501BSizeWrong : ChangeSpec := { name := "lawS0501BSize", fn := fun _ => fun
  | [d1, d2, d3] => { results := [.lit (.bool false)], args := [d1, d2, d3] }
  | _ => none }
def LawS0501BSizeWrongFalsely : Prop := lawS0501BSizeRow.holds Yba.pinned (OpenSpec.ofChange lawS0501BSizeWrong)

end Rows
end Go.Proofs.Ybulkjiu
