/-
  No cell of these rows narrows 'for every input' (looked for: loops, veiled, ifaces, maps, wideKeys, modest, calm, conditions, laid).
  DERIVED. THE GIVEN ROWS OF THIS SEAT. 2 by the template 'for every input the law returns true; each argument reads behind the call as it read before'; 0 by the template 'total and deterministic' (their statements: YbulkbglmTotals.lean).
  GIVEN WITH THE SEED: the statements are not yours to turn. If you find one false, say at which input.
  Laid BY PROGRAM, IN A SANDBOX (cutbox-rows.mjs): the forced cells as the released guide's own fill.sh prints them over the translation 557f588da3b83627… (all of the seat's roots in one cut). By AI agents, Wed Nov 11 2026. No macro, syntax, notation, axiom, sorry.
-/
import Derived.Test.YbulkbglmChecked
import GoSem.Claim
import GoSem.ClaimJoined
import GoSem.ClaimMapViews
import Derived.JoinedTies
import Derived.KernelRfl
namespace Go.Proofs.Ybulkbglm
/- THE CELL 'sum', in the pinned program and in every row, IS THE sha256 OF THE DUMP (.gsa) THAT YbulkbglmProg.lean LOADS. Nothing in Lean hashes anything: it is a label: what it is worth is what the hold of that sum in a sandbox is worth. -/
noncomputable def Yba.pinned : Pinned := { name := "ybulkbglm", sum := "557f588da3b836274d5665d3bc04be7312bb923ad0a096da5d1e7f858762e566", checked := Yba.checked }
namespace Rows
def none {H : Type} : Left H := { results := [], args := [] }

/-- 'tenancy.LawS2872AMatchesModel': WHATEVER THE INPUT: true; the input reads as it did. -/
def lawS2872AMatchesModelSpec : ChangeSpec := { name := "lawS2872AMatchesModel", fn := fun _ => fun
  | [d1, d2, d3, d4, d5, d6] => { results := [.lit (.bool true)], args := [d1, d2, d3, d4, d5, d6] }
  | _ => none }
def lawS2872AMatchesModelRow : OpenClaim := { program := "ybulkbglm", sum := "557f588da3b836274d5665d3bc04be7312bb923ad0a096da5d1e7f858762e566", func := "example.com/claimstake/claimstake/internal/tenancy.LawS2872AMatchesModel", spec := "lawS2872AMatchesModel", unfollowed := true, recurses := true, apart := false }
def LawS2872AMatchesModelSaid : Prop := lawS2872AMatchesModelRow.holds Yba.pinned (OpenSpec.ofChange lawS2872AMatchesModelSpec)

/-- ITS FALSE NEIGHBOUR: 'it returns false'. Refute it at one input. -/
def lawS2872AMatchesModelWrong : ChangeSpec := { name := "lawS2872AMatchesModel", fn := fun _ => fun
  | [d1, d2, d3, d4, d5, d6] => { results := [.lit (.bool false)], args := [d1, d2, d3, d4, d5, d6] }
  | _ => none }
def LawS2872AMatchesModelWrongFalsely : Prop := lawS2872AMatchesModelRow.holds Yba.pinned (OpenSpec.ofChange lawS2872AMatchesModelWrong)

/-- 'tenancy.LawS2872CModel': WHATEVER THE INPUT: true; the input reads as it did. -/
def lawS2872CModelSpec : ChangeSpec := { name := "lawS2872CModel", fn := fun _ => fun
  | [d] => { results := [.lit (.bool true)], args := [d] }
  | _ => none }
def lawS2872CModelRow : OpenClaim := { program := "ybulkbglm", sum := "557f588da3b836274d5665d3bc04be7312bb923ad0a096da5d1e7f858762e566", func := "example.com/claimstake/claimstake/internal/tenancy.LawS2872CModel", spec := "lawS2872CModel", apart := false }
def LawS2872CModelSaid : Prop := lawS2872CModelRow.holds Yba.pinned (OpenSpec.ofChange lawS2872CModelSpec)

/-- ITS FALSE NEIGHBOUR: 'it returns false'. Refute it at one input. -/
def lawS2872CModelWrong : ChangeSpec := { name := "lawS2872CModel", fn := fun _ => fun
  | [d] => { results := [.lit (.bool false)], args := [d] }
  | _ => none }
def LawS2872CModelWrongFalsely : Prop := lawS2872CModelRow.holds Yba.pinned (OpenSpec.ofChange lawS2872CModelWrong)

end Rows
end Go.Proofs.Ybulkbglm
