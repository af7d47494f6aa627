/-
  DERIVED. GIVEN WITH THE SEED: THE CARDS: each row of YbulkcljkFmtRows.lean that lists a variable, with what it lists TIED to the program's text (the seventh form; the later family's looks); each row that meets fmt, with fmt's text TOLD by the authors' own Lean function (tested against real Go, not proved from fmt's source: count such statements apart). THE CARD IS WHAT COUNTS. Prove the row's statement (the work); the ties are given (YbulkcljkFmtTie.lean); close each card by the builder's one call (the guide's Derived/Test/ToyasCard.lean, 'card_holds'). Laid BY PROGRAM, IN A SANDBOX (cutbox-door.mjs). By AI agents, Wed Nov 11 2026. No macro, syntax, notation, axiom, sorry.
-/
import Derived.Test.YbulkcljkFmtRows
import GoSem.ClaimSeven
namespace Go.Proofs.YbulkcljkFmt
namespace Rows

/-- THE TOLD CARD OF 'sshkey.LawS4365AFramed'. -/
def lawS4365AFramedCard : Claim7 := { stood := { row := lawS4365AFramedRow, standIns := [], harness := (true, "e109fd5c310191bb6f5d20afad187d7f23767eaae64b97cd686aa5e06d60d8f8"), looks := true }, told := true, goes := false }
def LawS4365AFramedToldSaid : Prop := Claim7.holds Ybaf.pinned (.plain (OpenSpec.ofChange lawS4365AFramedSpec)) lawS4365AFramedCard
/-- ITS FALSE NEIGHBOUR. Refute it at one input. -/
def LawS4365AFramedToldWrongFalsely : Prop := Claim7.holds Ybaf.pinned (.plain (OpenSpec.ofChange lawS4365AFramedWrong)) lawS4365AFramedCard

/-- THE TOLD CARD OF 'sshkey.LawS4365ARaw'. -/
def lawS4365ARawCard : Claim7 := { stood := { row := lawS4365ARawRow, standIns := [], harness := (true, "e109fd5c310191bb6f5d20afad187d7f23767eaae64b97cd686aa5e06d60d8f8"), looks := true }, told := true, goes := false }
def LawS4365ARawToldSaid : Prop := Claim7.holds Ybaf.pinned (.plain (OpenSpec.ofChange lawS4365ARawSpec)) lawS4365ARawCard
/-- ITS FALSE NEIGHBOUR. Refute it at one input. -/
def LawS4365ARawToldWrongFalsely : Prop := Claim7.holds Ybaf.pinned (.plain (OpenSpec.ofChange lawS4365ARawWrong)) lawS4365ARawCard
end Rows
end Go.Proofs.YbulkcljkFmt
