/-
  No cell of these rows narrows 'for every input' (looked for: loops, veiled, ifaces, maps, wideKeys, modest, calm, conditions, laid).
  DERIVED. THE GIVEN ROWS OF THIS SEAT. 4 by the template 'for every input the law returns true; each argument reads behind the call as it read before'; 0 by the template 'total and deterministic' (their statements: YbulkclmcTotals.lean).
  GIVEN WITH THE SEED: the statements are not yours to turn. If you find one false, say at which input.
  Laid BY PROGRAM, IN A SANDBOX (cutbox-rows.mjs): the forced cells as the released guide's own fill.sh prints them over the translation 43ce0627a491a98b… (all of the seat's roots in one cut). By AI agents, Wed Nov 11 2026. No macro, syntax, notation, axiom, sorry.
-/
import Derived.Test.YbulkclmcChecked
import GoSem.Claim
import GoSem.ClaimJoined
import GoSem.ClaimMapViews
import Derived.JoinedTies
import Derived.KernelRfl
namespace Go.Proofs.Ybulkclmc
/- THE CELL 'sum', in the pinned program and in every row, IS THE sha256 OF THE DUMP (.gsa) THAT YbulkclmcProg.lean LOADS. Nothing in Lean hashes anything: it is a label: what it is worth is what the hold of that sum in a sandbox is worth. -/
noncomputable def Yba.pinned : Pinned := { name := "ybulkclmc", sum := "43ce0627a491a98b5cac74219765960c55d8c0c9563175e5daf0e5fa5ad37e4e", checked := Yba.checked }
namespace Rows
def none {H : Type} : Left H := { results := [], args := [] }

/-- 'agile.LawS4370ALearn': WHATEVER THE INPUT: true; the input reads as it did. -/
def lawS4370ALearnSpec : ChangeSpec := { name := "lawS4370ALearn", fn := fun _ => fun
  | [d1, d2, d3, d4, d5] => { results := [.lit (.bool true)], args := [d1, d2, d3, d4, d5] }
  | _ => none }
def lawS4370ALearnRow : OpenClaim := { program := "ybulkclmc", sum := "43ce0627a491a98b5cac74219765960c55d8c0c9563175e5daf0e5fa5ad37e4e", func := "example.com/parley/parley/agile.LawS4370ALearn", spec := "lawS4370ALearn", unfollowed := true, recurses := true, plainKeys := false, apart := false }
def LawS4370ALearnSaid : Prop := lawS4370ALearnRow.holds Yba.pinned (OpenSpec.ofChange lawS4370ALearnSpec)

/-- ITS FALSE NEIGHBOUR: 'it returns false'. Refute it at one input. -/
def lawS4370ALearnWrong : ChangeSpec := { name := "lawS4370ALearn", fn := fun _ => fun
  | [d1, d2, d3, d4, d5] => { results := [.lit (.bool false)], args := [d1, d2, d3, d4, d5] }
  | _ => none }
def LawS4370ALearnWrongFalsely : Prop := lawS4370ALearnRow.holds Yba.pinned (OpenSpec.ofChange lawS4370ALearnWrong)

/-- 'agile.LawS4370BOk': WHATEVER THE INPUT: true; the input reads as it did. -/
def lawS4370BOkSpec : ChangeSpec := { name := "lawS4370BOk", fn := fun _ => fun
  | [d1, d2, d3, d4, d5, d6, d7, d8, d9] => { results := [.lit (.bool true)], args := [d1, d2, d3, d4, d5, d6, d7, d8, d9] }
  | _ => none }
def lawS4370BOkRow : OpenClaim := { program := "ybulkclmc", sum := "43ce0627a491a98b5cac74219765960c55d8c0c9563175e5daf0e5fa5ad37e4e", func := "example.com/parley/parley/agile.LawS4370BOk", spec := "lawS4370BOk", unfollowed := true, recurses := true, plainKeys := false, apart := false }
def LawS4370BOkSaid : Prop := lawS4370BOkRow.holds Yba.pinned (OpenSpec.ofChange lawS4370BOkSpec)

/-- ITS FALSE NEIGHBOUR: 'it returns false'. Refute it at one input. -/
def lawS4370BOkWrong : ChangeSpec := { name := "lawS4370BOk", fn := fun _ => fun
  | [d1, d2, d3, d4, d5, d6, d7, d8, d9] => { results := [.lit (.bool false)], args := [d1, d2, d3, d4, d5, d6, d7, d8, d9] }
  | _ => none }
def LawS4370BOkWrongFalsely : Prop := lawS4370BOkRow.holds Yba.pinned (OpenSpec.ofChange lawS4370BOkWrong)

/-- 'agile.LawS4370BWdeg': WHATEVER THE INPUT: true; the input reads as it did. -/
def lawS4370BWdegSpec : ChangeSpec := { name := "lawS4370BWdeg", fn := fun _ => fun
  | [d1, d2, d3, d4, d5, d6, d7, d8, d9] => { results := [.lit (.bool true)], args := [d1, d2, d3, d4, d5, d6, d7, d8, d9] }
  | _ => none }
def lawS4370BWdegRow : OpenClaim := { program := "ybulkclmc", sum := "43ce0627a491a98b5cac74219765960c55d8c0c9563175e5daf0e5fa5ad37e4e", func := "example.com/parley/parley/agile.LawS4370BWdeg", spec := "lawS4370BWdeg", unfollowed := true, recurses := true, plainKeys := false, apart := false }
def LawS4370BWdegSaid : Prop := lawS4370BWdegRow.holds Yba.pinned (OpenSpec.ofChange lawS4370BWdegSpec)

/-- ITS FALSE NEIGHBOUR: 'it returns false'. Refute it at one input. -/
def lawS4370BWdegWrong : ChangeSpec := { name := "lawS4370BWdeg", fn := fun _ => fun
  | [d1, d2, d3, d4, d5, d6, d7, d8, d9] => { results := [.lit (.bool false)], args := [d1, d2, d3, d4, d5, d6, d7, d8, d9] }
  | _ => none }
def LawS4370BWdegWrongFalsely : Prop := lawS4370BWdegRow.holds Yba.pinned (OpenSpec.ofChange lawS4370BWdegWrong)

/-- 'sim.LawS4370CEmpty': WHATEVER THE INPUT: true; the input reads as it did. -/
def lawS4370CEmptySpec : ChangeSpec := { name := "lawS4370CEmpty", fn := fun _ => fun
  | [d1, d2] => { results := [.lit (.bool true)], args := [d1, d2] }
  | _ => none }
def lawS4370CEmptyRow : OpenClaim := { program := "ybulkclmc", sum := "43ce0627a491a98b5cac74219765960c55d8c0c9563175e5daf0e5fa5ad37e4e", func := "example.com/parley/parley/sim.LawS4370CEmpty", spec := "lawS4370CEmpty", unfollowed := true, recurses := true, plainKeys := false, apart := false }
def LawS4370CEmptySaid : Prop := lawS4370CEmptyRow.holds Yba.pinned (OpenSpec.ofChange lawS4370CEmptySpec)

/-- ITS FALSE NEIGHBOUR: 'it returns false'. Refute it at one input. -/
def lawS4370CEmptyWrong : ChangeSpec := { name := "lawS4370CEmpty", fn := fun _ => fun
  | [d1, d2] => { results := [.lit (.bool false)], args := [d1, d2] }
  | _ => none }
def LawS4370CEmptyWrongFalsely : Prop := lawS4370CEmptyRow.holds Yba.pinned (OpenSpec.ofChange lawS4370CEmptyWrong)

end Rows
end Go.Proofs.Ybulkclmc
