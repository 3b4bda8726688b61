/-
  DERIVED. GIVEN WITH THE SEED: THE CARDS: each row of YbulkcuzuFmtRows.lean that lists a variable, with what it lists TIED to the program's text (the seventh form; the later family's looks); each row that meets fmt, with fmt's text TOLD by the authors' own Lean function (tested against real Go, not proved from fmt's source: count such statements apart). THE CARD IS WHAT COUNTS. Prove the row's statement (the work); the ties are given (YbulkcuzuFmtTie.lean); close each card by the builder's one call (the guide's Derived/Test/ToyasCard.lean, 'card_holds'). Laid BY PROGRAM, IN A SANDBOX (cutbox-door.mjs). By AI agents, Wed Nov 11 2026. No macro, syntax, notation, axiom, sorry.
-/
import Derived.Test.YbulkcuzuFmtRows
import GoSem.ClaimSeven
namespace Go.Proofs.YbulkcuzuFmt
namespace Rows

/-- THE TOLD CARD OF 'protocol.LawS4830AAccepts'. -/
def lawS4830AAcceptsCard : Claim7 := { stood := { row := lawS4830AAcceptsRow, standIns := [], harness := (true, "e9582a5c9b06446300c46fd368086202fa431e36d0a2b941d91e17924301cc2b"), looks := false }, told := true, goes := false }
def LawS4830AAcceptsToldSaid : Prop := Claim7.holds Ybaf.pinned (.plain (OpenSpec.ofChange lawS4830AAcceptsSpec)) lawS4830AAcceptsCard
/-- ITS FALSE NEIGHBOUR. Refute it at one input. -/
def LawS4830AAcceptsToldWrongFalsely : Prop := Claim7.holds Ybaf.pinned (.plain (OpenSpec.ofChange lawS4830AAcceptsWrong)) lawS4830AAcceptsCard

/-- THE TOLD CARD OF 'protocol.LawS4830AMapped'. -/
def lawS4830AMappedCard : Claim7 := { stood := { row := lawS4830AMappedRow, standIns := [], harness := (true, "e9582a5c9b06446300c46fd368086202fa431e36d0a2b941d91e17924301cc2b"), looks := false }, told := true, goes := false }
def LawS4830AMappedToldSaid : Prop := Claim7.holds Ybaf.pinned (.plain (OpenSpec.ofChange lawS4830AMappedSpec)) lawS4830AMappedCard
/-- ITS FALSE NEIGHBOUR. Refute it at one input. -/
def LawS4830AMappedToldWrongFalsely : Prop := Claim7.holds Ybaf.pinned (.plain (OpenSpec.ofChange lawS4830AMappedWrong)) lawS4830AMappedCard
end Rows
end Go.Proofs.YbulkcuzuFmt
