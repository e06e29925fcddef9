/-
  No cell of these rows narrows 'for every input' (looked for: loops, veiled, ifaces, maps, wideKeys, modest, calm, conditions, laid).
  DERIVED. THE GIVEN ROWS OF THIS SEAT. 4 by the template 'for every input the law returns true; each argument reads behind the call as it read before'; 0 by the template 'total and deterministic' (their statements: YbulkxheTotals.lean).
  GIVEN WITH THE SEED: the statements are not yours to turn. If you find one false, say at which input.
  Laid BY PROGRAM, IN A SANDBOX (cutbox-rows.mjs): the forced cells as the released guide's own fill.sh prints them over the translation 529a8d856e248791… (all of the seat's roots in one cut). By AI agents, Wed Nov 11 2026. No macro, syntax, notation, axiom, sorry.
-/
import Derived.Test.YbulkxheChecked
import GoSem.Claim
import GoSem.ClaimJoined
import GoSem.ClaimMapViews
import Derived.JoinedTies
import Derived.KernelRfl
namespace Go.Proofs.Ybulkxhe
/- THE CELL 'sum', in the pinned program and in every row, IS THE sha256 OF THE DUMP (.gsa) THAT YbulkxheProg.lean LOADS. Nothing in Lean hashes anything: it is a label: what it is worth is what the hold of that sum in a sandbox is worth. -/
noncomputable def Yba.pinned : Pinned := { name := "ybulkxhe", sum := "529a8d856e2487912fc68f5f1dd9e0e83a04bf7f7f3d31b3a745bd73188200a0", checked := Yba.checked }
namespace Rows
def none {H : Type} : Left H := { results := [], args := [] }

/-- 'iiab.LawS1174AIdentity': WHATEVER THE INPUT: true; the input reads as it did. -/
def lawS1174AIdentitySpec : ChangeSpec := { name := "lawS1174AIdentity", fn := fun _ => fun
  | [d] => { results := [.lit (.bool true)], args := [d] }
  | _ => none }
def lawS1174AIdentityRow : OpenClaim := { program := "ybulkxhe", sum := "529a8d856e2487912fc68f5f1dd9e0e83a04bf7f7f3d31b3a745bd73188200a0", func := "example.com/keelstone/keelstone/iiab.LawS1174AIdentity", spec := "lawS1174AIdentity", apart := false }
def LawS1174AIdentitySaid : Prop := lawS1174AIdentityRow.holds Yba.pinned (OpenSpec.ofChange lawS1174AIdentitySpec)

/-- ITS FALSE NEIGHBOUR: 'it returns false'. Refute it at one input. -/
def lawS1174AIdentityWrong : ChangeSpec := { name := "lawS1174AIdentity", fn := fun _ => fun
  | [d] => { results := [.lit (.bool false)], args := [d] }
  | _ => none }
def LawS1174AIdentityWrongFalsely : Prop := lawS1174AIdentityRow.holds Yba.pinned (OpenSpec.ofChange lawS1174AIdentityWrong)

/-- 'iiab.LawS1174ASignedIn': WHATEVER THE INPUT: true; the input reads as it did. -/
def lawS1174ASignedInSpec : ChangeSpec := { name := "lawS1174ASignedIn", fn := fun _ => fun
  | [d] => { results := [.lit (.bool true)], args := [d] }
  | _ => none }
def lawS1174ASignedInRow : OpenClaim := { program := "ybulkxhe", sum := "529a8d856e2487912fc68f5f1dd9e0e83a04bf7f7f3d31b3a745bd73188200a0", func := "example.com/keelstone/keelstone/iiab.LawS1174ASignedIn", spec := "lawS1174ASignedIn", apart := false }
def LawS1174ASignedInSaid : Prop := lawS1174ASignedInRow.holds Yba.pinned (OpenSpec.ofChange lawS1174ASignedInSpec)

/-- ITS FALSE NEIGHBOUR: 'it returns false'. Refute it at one input. -/
def lawS1174ASignedInWrong : ChangeSpec := { name := "lawS1174ASignedIn", fn := fun _ => fun
  | [d] => { results := [.lit (.bool false)], args := [d] }
  | _ => none }
def LawS1174ASignedInWrongFalsely : Prop := lawS1174ASignedInRow.holds Yba.pinned (OpenSpec.ofChange lawS1174ASignedInWrong)

/-- 'gorilla.LawS1174BStep': WHATEVER THE INPUT: true; the input reads as it did. -/
def lawS1174BStepSpec : ChangeSpec := { name := "lawS1174BStep", fn := fun _ => fun
  | [d1, d2, d3, d4, d5] => { results := [.lit (.bool true)], args := [d1, d2, d3, d4, d5] }
  | _ => none }
def lawS1174BStepRow : OpenClaim := { program := "ybulkxhe", sum := "529a8d856e2487912fc68f5f1dd9e0e83a04bf7f7f3d31b3a745bd73188200a0", func := "example.com/keelstone/keelstone/gorilla.LawS1174BStep", spec := "lawS1174BStep", unfollowed := true, recurses := true, apart := false }
def LawS1174BStepSaid : Prop := lawS1174BStepRow.holds Yba.pinned (OpenSpec.ofChange lawS1174BStepSpec)

/-- ITS FALSE NEIGHBOUR: 'it returns false'. Refute it at one input. -/
def lawS1174BStepWrong : ChangeSpec := { name := "lawS1174BStep", fn := fun _ => fun
  | [d1, d2, d3, d4, d5] => { results := [.lit (.bool false)], args := [d1, d2, d3, d4, d5] }
  | _ => none }
def LawS1174BStepWrongFalsely : Prop := lawS1174BStepRow.holds Yba.pinned (OpenSpec.ofChange lawS1174BStepWrong)

/-- 'gorilla.LawS1174BRun': WHATEVER THE INPUT: true; the input reads as it did. -/
def lawS1174BRunSpec : ChangeSpec := { name := "lawS1174BRun", fn := fun _ => fun
  | [d1, d2, d3] => { results := [.lit (.bool true)], args := [d1, d2, d3] }
  | _ => none }
def lawS1174BRunRow : OpenClaim := { program := "ybulkxhe", sum := "529a8d856e2487912fc68f5f1dd9e0e83a04bf7f7f3d31b3a745bd73188200a0", func := "example.com/keelstone/keelstone/gorilla.LawS1174BRun", spec := "lawS1174BRun", unfollowed := true, recurses := true, apart := false }
def LawS1174BRunSaid : Prop := lawS1174BRunRow.holds Yba.pinned (OpenSpec.ofChange lawS1174BRunSpec)

/-- ITS FALSE NEIGHBOUR: 'it returns false'. Refute it at one input. -/
def lawS1174BRunWrong : ChangeSpec := { name := "lawS1174BRun", fn := fun _ => fun
  | [d1, d2, d3] => { results := [.lit (.bool false)], args := [d1, d2, d3] }
  | _ => none }
def LawS1174BRunWrongFalsely : Prop := lawS1174BRunRow.holds Yba.pinned (OpenSpec.ofChange lawS1174BRunWrong)

end Rows
end Go.Proofs.Ybulkxhe
