/-
  No cell of these rows narrows 'for every input' (looked for: loops, veiled, ifaces, maps, wideKeys, modest, calm, conditions, laid).
  DERIVED. THE GIVEN ROWS OF THIS SEAT. 2 by the template 'for every input the law returns true; each argument reads behind the call as it read before'; 0 by the template 'total and deterministic' (their statements: YbulkxiuTotals.lean).
  GIVEN WITH THE SEED: the statements are not yours to turn. If you find one false, say at which input.
  Laid BY PROGRAM, IN A SANDBOX (cutbox-rows.mjs): the forced cells as the released guide's own fill.sh prints them over the translation 80e64d0fb99a02e4… (all of the seat's roots in one cut). By AI agents, Wed Nov 11 2026. No macro, syntax, notation, axiom, sorry.
-/
import Derived.Test.YbulkxiuChecked
import GoSem.Claim
import GoSem.ClaimJoined
import GoSem.ClaimMapViews
import Derived.JoinedTies
import Derived.KernelRfl
namespace Go.Proofs.Ybulkxiu
/- THE CELL 'sum', in the pinned program and in every row, IS THE sha256 OF THE DUMP (.gsa) THAT YbulkxiuProg.lean LOADS. Nothing in Lean hashes anything: it is a label: what it is worth is what the hold of that sum in a sandbox is worth. -/
noncomputable def Yba.pinned : Pinned := { name := "ybulkxiu", sum := "80e64d0fb99a02e420526cb0026bd0500b23f168e67c351f49cfb6e7d0584bfc", checked := Yba.checked }
namespace Rows
def none {H : Type} : Left H := { results := [], args := [] }

/-- 'niyam.LawS1177ATree': WHATEVER THE INPUT: true; the input reads as it did. -/
def lawS1177ATreeSpec : ChangeSpec := { name := "lawS1177ATree", fn := fun _ => fun
  | [d] => { results := [.lit (.bool true)], args := [d] }
  | _ => none }
def lawS1177ATreeRow : OpenClaim := { program := "ybulkxiu", sum := "80e64d0fb99a02e420526cb0026bd0500b23f168e67c351f49cfb6e7d0584bfc", func := "example.com/niyam/niyam.LawS1177ATree", spec := "lawS1177ATree", inPlace := ["internal/bytealg.abigen_runtime_cmpstring"], unfollowed := true, recurses := true, apart := false }
def LawS1177ATreeSaid : Prop := lawS1177ATreeRow.holds Yba.pinned (OpenSpec.ofChange lawS1177ATreeSpec)

/-- ITS FALSE NEIGHBOUR: 'it returns false'. Refute it at one input. -/
def lawS1177ATreeWrong : ChangeSpec := { name := "lawS1177ATree", fn := fun _ => fun
  | [d] => { results := [.lit (.bool false)], args := [d] }
  | _ => none }
def LawS1177ATreeWrongFalsely : Prop := lawS1177ATreeRow.holds Yba.pinned (OpenSpec.ofChange lawS1177ATreeWrong)

/-- 'niyam.LawS1177ANamed': WHATEVER THE INPUT: true; the input reads as it did. -/
def lawS1177ANamedSpec : ChangeSpec := { name := "lawS1177ANamed", fn := fun _ => fun
  | [d] => { results := [.lit (.bool true)], args := [d] }
  | _ => none }
def lawS1177ANamedRow : OpenClaim := { program := "ybulkxiu", sum := "80e64d0fb99a02e420526cb0026bd0500b23f168e67c351f49cfb6e7d0584bfc", func := "example.com/niyam/niyam.LawS1177ANamed", spec := "lawS1177ANamed", inPlace := ["internal/bytealg.abigen_runtime_cmpstring"], unfollowed := true, recurses := true, apart := false }
def LawS1177ANamedSaid : Prop := lawS1177ANamedRow.holds Yba.pinned (OpenSpec.ofChange lawS1177ANamedSpec)

/-- ITS FALSE NEIGHBOUR: 'it returns false'. Refute it at one input. -/
def lawS1177ANamedWrong : ChangeSpec := { name := "lawS1177ANamed", fn := fun _ => fun
  | [d] => { results := [.lit (.bool false)], args := [d] }
  | _ => none }
def LawS1177ANamedWrongFalsely : Prop := lawS1177ANamedRow.holds Yba.pinned (OpenSpec.ofChange lawS1177ANamedWrong)

end Rows
end Go.Proofs.Ybulkxiu
