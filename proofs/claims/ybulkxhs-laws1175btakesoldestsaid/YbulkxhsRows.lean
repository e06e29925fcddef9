/-
  No cell of these rows narrows 'for every input' (looked for: loops, veiled, ifaces, maps, wideKeys, modest, calm, conditions, laid).
  DERIVED. THE GIVEN ROWS OF THIS SEAT. 3 by the template 'for every input the law returns true; each argument reads behind the call as it read before'; 0 by the template 'total and deterministic' (their statements: YbulkxhsTotals.lean).
  GIVEN WITH THE SEED: the statements are not yours to turn. If you find one false, say at which input.
  Laid BY PROGRAM, IN A SANDBOX (cutbox-rows.mjs): the forced cells as the released guide's own fill.sh prints them over the translation 735774773281f85f… (all of the seat's roots in one cut). By AI agents, Wed Nov 11 2026. No macro, syntax, notation, axiom, sorry.
-/
import Derived.Test.YbulkxhsChecked
import GoSem.Claim
import GoSem.ClaimJoined
import GoSem.ClaimMapViews
import Derived.JoinedTies
import Derived.KernelRfl
namespace Go.Proofs.Ybulkxhs
/- THE CELL 'sum', in the pinned program and in every row, IS THE sha256 OF THE DUMP (.gsa) THAT YbulkxhsProg.lean LOADS. Nothing in Lean hashes anything: it is a label: what it is worth is what the hold of that sum in a sandbox is worth. -/
noncomputable def Yba.pinned : Pinned := { name := "ybulkxhs", sum := "735774773281f85f49333a434a45c71e2e22bf65c7d9180e62a2f135beccee36", checked := Yba.checked }
namespace Rows
def none {H : Type} : Left H := { results := [], args := [] }

/-- 'myrmidon.LawS1175BTakesOldest': WHATEVER THE INPUT: true; the input reads as it did. -/
def lawS1175BTakesOldestSpec : ChangeSpec := { name := "lawS1175BTakesOldest", fn := fun _ => fun
  | [d1, d2] => { results := [.lit (.bool true)], args := [d1, d2] }
  | _ => none }
def lawS1175BTakesOldestRow : OpenClaim := { program := "ybulkxhs", sum := "735774773281f85f49333a434a45c71e2e22bf65c7d9180e62a2f135beccee36", func := "example.com/myrmidon/myrmidon.LawS1175BTakesOldest", spec := "lawS1175BTakesOldest", inPlace := ["sync/atomic.StoreInt64", "sync/atomic.AddInt64", "sync/atomic.LoadInt64"], apart := false }
def LawS1175BTakesOldestSaid : Prop := lawS1175BTakesOldestRow.holds Yba.pinned (OpenSpec.ofChange lawS1175BTakesOldestSpec)

/-- ITS FALSE NEIGHBOUR: 'it returns false'. Refute it at one input. -/
def lawS1175BTakesOldestWrong : ChangeSpec := { name := "lawS1175BTakesOldest", fn := fun _ => fun
  | [d1, d2] => { results := [.lit (.bool false)], args := [d1, d2] }
  | _ => none }
def LawS1175BTakesOldestWrongFalsely : Prop := lawS1175BTakesOldestRow.holds Yba.pinned (OpenSpec.ofChange lawS1175BTakesOldestWrong)

/-- 'myrmidon.LawS1175CSetsHandler': WHATEVER THE INPUT: true; the input reads as it did. -/
def lawS1175CSetsHandlerSpec : ChangeSpec := { name := "lawS1175CSetsHandler", fn := fun _ => fun
  | [d1, d2, d3, d4, d5, d6] => { results := [.lit (.bool true)], args := [d1, d2, d3, d4, d5, d6] }
  | _ => none }
def lawS1175CSetsHandlerRow : OpenClaim := { program := "ybulkxhs", sum := "735774773281f85f49333a434a45c71e2e22bf65c7d9180e62a2f135beccee36", func := "example.com/myrmidon/myrmidon.LawS1175CSetsHandler", spec := "lawS1175CSetsHandler", unfollowed := true, recurses := true, apart := false }
def LawS1175CSetsHandlerSaid : Prop := lawS1175CSetsHandlerRow.holds Yba.pinned (OpenSpec.ofChange lawS1175CSetsHandlerSpec)

/-- ITS FALSE NEIGHBOUR: 'it returns false'. Refute it at one input. -/
def lawS1175CSetsHandlerWrong : ChangeSpec := { name := "lawS1175CSetsHandler", fn := fun _ => fun
  | [d1, d2, d3, d4, d5, d6] => { results := [.lit (.bool false)], args := [d1, d2, d3, d4, d5, d6] }
  | _ => none }
def LawS1175CSetsHandlerWrongFalsely : Prop := lawS1175CSetsHandlerRow.holds Yba.pinned (OpenSpec.ofChange lawS1175CSetsHandlerWrong)

/-- 'myrmidon.LawS1175CLaterWins': WHATEVER THE INPUT: true; the input reads as it did. -/
def lawS1175CLaterWinsSpec : ChangeSpec := { name := "lawS1175CLaterWins", fn := fun _ => fun
  | [d1, d2, d3] => { results := [.lit (.bool true)], args := [d1, d2, d3] }
  | _ => none }
def lawS1175CLaterWinsRow : OpenClaim := { program := "ybulkxhs", sum := "735774773281f85f49333a434a45c71e2e22bf65c7d9180e62a2f135beccee36", func := "example.com/myrmidon/myrmidon.LawS1175CLaterWins", spec := "lawS1175CLaterWins", unfollowed := true, recurses := true, apart := false }
def LawS1175CLaterWinsSaid : Prop := lawS1175CLaterWinsRow.holds Yba.pinned (OpenSpec.ofChange lawS1175CLaterWinsSpec)

/-- ITS FALSE NEIGHBOUR: 'it returns false'. Refute it at one input. -/
def lawS1175CLaterWinsWrong : ChangeSpec := { name := "lawS1175CLaterWins", fn := fun _ => fun
  | [d1, d2, d3] => { results := [.lit (.bool false)], args := [d1, d2, d3] }
  | _ => none }
def LawS1175CLaterWinsWrongFalsely : Prop := lawS1175CLaterWinsRow.holds Yba.pinned (OpenSpec.ofChange lawS1175CLaterWinsWrong)

end Rows
end Go.Proofs.Ybulkxhs
