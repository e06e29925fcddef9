/-
  No cell of these rows narrows 'for every input' (looked for: loops, veiled, ifaces, maps, wideKeys, modest, calm, conditions, laid).
  DERIVED. THE GIVEN ROWS OF THIS SEAT. 2 by the template 'for every input the law returns true; each argument reads behind the call as it read before'; 0 by the template 'total and deterministic' (their statements: YbulkxfoTotals.lean).
  GIVEN WITH THE SEED: the statements are not yours to turn. If you find one false, say at which input.
  Laid BY PROGRAM, IN A SANDBOX (cutbox-rows.mjs): the forced cells as the released guide's own fill.sh prints them over the translation 8ef16e2c1c313af9… (all of the seat's roots in one cut). By AI agents, Wed Nov 11 2026. No macro, syntax, notation, axiom, sorry.
-/
import Derived.Test.YbulkxfoChecked
import GoSem.Claim
import GoSem.ClaimJoined
import GoSem.ClaimMapViews
import Derived.JoinedTies
import Derived.KernelRfl
namespace Go.Proofs.Ybulkxfo
/- THE CELL 'sum', in the pinned program and in every row, IS THE sha256 OF THE DUMP (.gsa) THAT YbulkxfoProg.lean LOADS. Nothing in Lean hashes anything: it is a label: what it is worth is what the hold of that sum in a sandbox is worth. -/
noncomputable def Yba.pinned : Pinned := { name := "ybulkxfo", sum := "8ef16e2c1c313af9681ba0d93750099ec5259ad82e8864152d8ba02d4f7ceaf9", checked := Yba.checked }
namespace Rows
def none {H : Type} : Left H := { results := [], args := [] }

/-- 'fund.LawS1171CMerge': WHATEVER THE INPUT: true; the input reads as it did. -/
def lawS1171CMergeSpec : ChangeSpec := { name := "lawS1171CMerge", fn := fun _ => fun
  | [d1, d2, d3] => { results := [.lit (.bool true)], args := [d1, d2, d3] }
  | _ => none }
def lawS1171CMergeRow : OpenClaim := { program := "ybulkxfo", sum := "8ef16e2c1c313af9681ba0d93750099ec5259ad82e8864152d8ba02d4f7ceaf9", func := "example.com/fundscroll/fundscroll/fund.LawS1171CMerge", spec := "lawS1171CMerge", unfollowed := true, recurses := true, apart := false }
def LawS1171CMergeSaid : Prop := lawS1171CMergeRow.holds Yba.pinned (OpenSpec.ofChange lawS1171CMergeSpec)

/-- ITS FALSE NEIGHBOUR: 'it returns false'. Refute it at one input. -/
def lawS1171CMergeWrong : ChangeSpec := { name := "lawS1171CMerge", fn := fun _ => fun
  | [d1, d2, d3] => { results := [.lit (.bool false)], args := [d1, d2, d3] }
  | _ => none }
def LawS1171CMergeWrongFalsely : Prop := lawS1171CMergeRow.holds Yba.pinned (OpenSpec.ofChange lawS1171CMergeWrong)

/-- 'fund.LawS1171CInPlace': WHATEVER THE INPUT: true; the input reads as it did. -/
def lawS1171CInPlaceSpec : ChangeSpec := { name := "lawS1171CInPlace", fn := fun _ => fun
  | [d1, d2, d3] => { results := [.lit (.bool true)], args := [d1, d2, d3] }
  | _ => none }
def lawS1171CInPlaceRow : OpenClaim := { program := "ybulkxfo", sum := "8ef16e2c1c313af9681ba0d93750099ec5259ad82e8864152d8ba02d4f7ceaf9", func := "example.com/fundscroll/fundscroll/fund.LawS1171CInPlace", spec := "lawS1171CInPlace", unfollowed := true, recurses := true, apart := false }
def LawS1171CInPlaceSaid : Prop := lawS1171CInPlaceRow.holds Yba.pinned (OpenSpec.ofChange lawS1171CInPlaceSpec)

/-- ITS FALSE NEIGHBOUR: 'it returns false'. Refute it at one input. -/
def lawS1171CInPlaceWrong : ChangeSpec := { name := "lawS1171CInPlace", fn := fun _ => fun
  | [d1, d2, d3] => { results := [.lit (.bool false)], args := [d1, d2, d3] }
  | _ => none }
def LawS1171CInPlaceWrongFalsely : Prop := lawS1171CInPlaceRow.holds Yba.pinned (OpenSpec.ofChange lawS1171CInPlaceWrong)

end Rows
end Go.Proofs.Ybulkxfo
