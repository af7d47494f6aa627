/-
  No cell of these rows narrows 'for every input' (looked for: loops, veiled, ifaces, maps, wideKeys, modest, calm, conditions, laid).
  DERIVED. THE GIVEN ROWS OF THIS SEAT. 1 by the template 'for every input the law returns true; each argument reads behind the call as it read before'; 0 by the template 'total and deterministic' (their statements: YbulkclnsTotals.lean).
  GIVEN WITH THE SEED: the statements are not yours to turn. If you find one false, say at which input.
  Laid BY PROGRAM, IN A SANDBOX (cutbox-rows.mjs): the forced cells as the released guide's own fill.sh prints them over the translation 4be95ea3e8d0bab0… (all of the seat's roots in one cut). By AI agents, Wed Nov 11 2026. No macro, syntax, notation, axiom, sorry.
-/
import Derived.Test.YbulkclnsChecked
import GoSem.Claim
import GoSem.ClaimJoined
import GoSem.ClaimMapViews
import Derived.JoinedTies
import Derived.KernelRfl
namespace Go.Proofs.Ybulkclns
/- THE CELL 'sum', in the pinned program and in every row, IS THE sha256 OF THE DUMP (.gsa) THAT YbulkclnsProg.lean LOADS. Nothing in Lean hashes anything: it is a label: what it is worth is what the hold of that sum in a sandbox is worth. -/
noncomputable def Yba.pinned : Pinned := { name := "ybulkclns", sum := "4be95ea3e8d0bab0f7a921ac738b6d795a83d783c73cf8fe4c18f272f175d80e", checked := Yba.checked }
namespace Rows
def none {H : Type} : Left H := { results := [], args := [] }

/-- 'consensus.LawS4373AModel': WHATEVER THE INPUT: true; the input reads as it did. -/
def lawS4373AModelSpec : ChangeSpec := { name := "lawS4373AModel", fn := fun _ => fun
  | [d1, d2, d3, d4, d5, d6] => { results := [.lit (.bool true)], args := [d1, d2, d3, d4, d5, d6] }
  | _ => none }
def lawS4373AModelRow : OpenClaim := { program := "ybulkclns", sum := "4be95ea3e8d0bab0f7a921ac738b6d795a83d783c73cf8fe4c18f272f175d80e", func := "example.com/lockvote/lockvote/internal/consensus.LawS4373AModel", spec := "lawS4373AModel", plainKeys := false, apart := false }
def LawS4373AModelSaid : Prop := lawS4373AModelRow.holds Yba.pinned (OpenSpec.ofChange lawS4373AModelSpec)

/-- ITS FALSE NEIGHBOUR: 'it returns false'. Refute it at one input. -/
def lawS4373AModelWrong : ChangeSpec := { name := "lawS4373AModel", fn := fun _ => fun
  | [d1, d2, d3, d4, d5, d6] => { results := [.lit (.bool false)], args := [d1, d2, d3, d4, d5, d6] }
  | _ => none }
def LawS4373AModelWrongFalsely : Prop := lawS4373AModelRow.holds Yba.pinned (OpenSpec.ofChange lawS4373AModelWrong)

end Rows
end Go.Proofs.Ybulkclns
