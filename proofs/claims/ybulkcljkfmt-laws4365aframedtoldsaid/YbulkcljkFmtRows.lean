/-
  No cell of these rows narrows 'for every input' (looked for: loops, veiled, ifaces, maps, wideKeys, modest, calm, conditions, laid).
  DERIVED. THE GIVEN ROWS OF THIS SEAT. 2 by the template 'for every input the law returns true; each argument reads behind the call as it read before'; 0 by the template 'total and deterministic' (their statements: YbulkcljkFmtTotals.lean).
  GIVEN WITH THE SEED: the statements are not yours to turn. If you find one false, say at which input.
  Laid BY PROGRAM, IN A SANDBOX (cutbox-rows.mjs): the forced cells as the released guide's own fill.sh prints them over the translation 71b037df280e2be5… (all of the seat's roots in one cut). By AI agents, Wed Nov 11 2026. No macro, syntax, notation, axiom, sorry.
-/
import Derived.Test.YbulkcljkFmtChecked
import GoSem.Claim
import GoSem.ClaimJoined
import GoSem.ClaimMapViews
import Derived.JoinedTies
import Derived.KernelRfl
namespace Go.Proofs.YbulkcljkFmt
/- THE CELL 'sum', in the pinned program and in every row, IS THE sha256 OF THE DUMP (.gsa) THAT YbulkcljkFmtProg.lean LOADS. Nothing in Lean hashes anything: it is a label: what it is worth is what the hold of that sum in a sandbox is worth. -/
noncomputable def Ybaf.pinned : Pinned := { name := "ybulkcljkfmt", sum := "71b037df280e2be5b6584aaad5f68ae20148f34d5837630d8917046351bb479c", checked := Ybaf.checked }
namespace Rows
def none {H : Type} : Left H := { results := [], args := [] }

/-- 'sshkey.LawS4365AFramed': WHATEVER THE INPUT: true; the input reads as it did. -/
def lawS4365AFramedSpec : ChangeSpec := { name := "lawS4365AFramed", fn := fun _ => fun
  | [d1, d2, d3, d4] => { results := [.lit (.bool true)], args := [d1, d2, d3, d4] }
  | _ => none }
def lawS4365AFramedRow : OpenClaim := { program := "ybulkcljkfmt", sum := "71b037df280e2be5b6584aaad5f68ae20148f34d5837630d8917046351bb479c", func := "example.com/keybrace/keybrace/sshkey.LawS4365AFramed", spec := "lawS4365AFramed", stops := ["fmt.errorf"], inPlace := ["fmt.errorf"], named := ["encoding/binary.BigEndian"], apart := false }
/-- NO THEOREM (fmt's text is open here; it may be false): for the released tool's asking of the row's closed facts alone. THE STATEMENT IS 'LawS4365AFramedToldSaid' (YbulkcljkFmtCards.lean). -/
def LawS4365AFramedFormAsk : Prop := lawS4365AFramedRow.holds Ybaf.pinned (OpenSpec.ofChange lawS4365AFramedSpec)

/-- ITS FALSE NEIGHBOUR: 'it returns false'. Refute it at one input. -/
def lawS4365AFramedWrong : ChangeSpec := { name := "lawS4365AFramed", fn := fun _ => fun
  | [d1, d2, d3, d4] => { results := [.lit (.bool false)], args := [d1, d2, d3, d4] }
  | _ => none }
def LawS4365AFramedWrongFormAsk : Prop := lawS4365AFramedRow.holds Ybaf.pinned (OpenSpec.ofChange lawS4365AFramedWrong)

/-- 'sshkey.LawS4365ARaw': WHATEVER THE INPUT: true; the input reads as it did. -/
def lawS4365ARawSpec : ChangeSpec := { name := "lawS4365ARaw", fn := fun _ => fun
  | [d1, d2, d3] => { results := [.lit (.bool true)], args := [d1, d2, d3] }
  | _ => none }
def lawS4365ARawRow : OpenClaim := { program := "ybulkcljkfmt", sum := "71b037df280e2be5b6584aaad5f68ae20148f34d5837630d8917046351bb479c", func := "example.com/keybrace/keybrace/sshkey.LawS4365ARaw", spec := "lawS4365ARaw", stops := ["fmt.errorf"], inPlace := ["fmt.errorf"], named := ["encoding/binary.BigEndian"], apart := false }
/-- NO THEOREM (fmt's text is open here; it may be false): for the released tool's asking of the row's closed facts alone. THE STATEMENT IS 'LawS4365ARawToldSaid' (YbulkcljkFmtCards.lean). -/
def LawS4365ARawFormAsk : Prop := lawS4365ARawRow.holds Ybaf.pinned (OpenSpec.ofChange lawS4365ARawSpec)

/-- ITS FALSE NEIGHBOUR: 'it returns false'. Refute it at one input. -/
def lawS4365ARawWrong : ChangeSpec := { name := "lawS4365ARaw", fn := fun _ => fun
  | [d1, d2, d3] => { results := [.lit (.bool false)], args := [d1, d2, d3] }
  | _ => none }
def LawS4365ARawWrongFormAsk : Prop := lawS4365ARawRow.holds Ybaf.pinned (OpenSpec.ofChange lawS4365ARawWrong)

end Rows
end Go.Proofs.YbulkcljkFmt
