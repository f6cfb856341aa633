/-
  No cell of these rows narrows 'for every input' (looked for: loops, veiled, ifaces, maps, wideKeys, modest, calm, conditions, laid).
  DERIVED. THE GIVEN ROWS OF THIS SEAT. 1 by the template 'for every input the law returns true; each argument reads behind the call as it read before'; 0 by the template 'total and deterministic' (their statements: YbulkbgosTotals.lean).
  GIVEN WITH THE SEED: the statements are not yours to turn. If you find one false, say at which input.
  Laid BY PROGRAM, IN A SANDBOX (cutbox-rows.mjs): the forced cells as the released guide's own fill.sh prints them over the translation 659077752ca8871a… (all of the seat's roots in one cut). By AI agents, Wed Nov 11 2026. No macro, syntax, notation, axiom, sorry.
-/
import Derived.Test.YbulkbgosChecked
import GoSem.Claim
import GoSem.ClaimJoined
import GoSem.ClaimMapViews
import Derived.JoinedTies
import Derived.KernelRfl
namespace Go.Proofs.Ybulkbgos
/- THE CELL 'sum', in the pinned program and in every row, IS THE sha256 OF THE DUMP (.gsa) THAT YbulkbgosProg.lean LOADS. Nothing in Lean hashes anything: it is a label: what it is worth is what the hold of that sum in a sandbox is worth. -/
noncomputable def Yba.pinned : Pinned := { name := "ybulkbgos", sum := "659077752ca8871ab1f45281fe4798e6b2668745df6ee024b30ab75d7ffd950f", checked := Yba.checked }
namespace Rows
def none {H : Type} : Left H := { results := [], args := [] }

/-- 'yaml.LawS2878BUndo': WHATEVER THE INPUT: true; the input reads as it did. -/
def lawS2878BUndoSpec : ChangeSpec := { name := "lawS2878BUndo", fn := fun _ => fun
  | [d1, d2, d3, d4, d5, d6, d7, d8] => { results := [.lit (.bool true)], args := [d1, d2, d3, d4, d5, d6, d7, d8] }
  | _ => none }
def lawS2878BUndoRow : OpenClaim := { program := "ybulkbgos", sum := "659077752ca8871ab1f45281fe4798e6b2668745df6ee024b30ab75d7ffd950f", func := "example.com/phasewright/phasewright/pkg/yaml.LawS2878BUndo", spec := "lawS2878BUndo", unfollowed := true, recurses := true, apart := false }
def LawS2878BUndoSaid : Prop := lawS2878BUndoRow.holds Yba.pinned (OpenSpec.ofChange lawS2878BUndoSpec)

/-- ITS FALSE NEIGHBOUR: 'it returns false'. Refute it at one input. -/
def lawS2878BUndoWrong : ChangeSpec := { name := "lawS2878BUndo", fn := fun _ => fun
  | [d1, d2, d3, d4, d5, d6, d7, d8] => { results := [.lit (.bool false)], args := [d1, d2, d3, d4, d5, d6, d7, d8] }
  | _ => none }
def LawS2878BUndoWrongFalsely : Prop := lawS2878BUndoRow.holds Yba.pinned (OpenSpec.ofChange lawS2878BUndoWrong)

end Rows
end Go.Proofs.Ybulkbgos
