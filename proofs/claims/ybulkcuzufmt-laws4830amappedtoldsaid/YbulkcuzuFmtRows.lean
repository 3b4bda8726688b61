/-
  No cell of these rows narrows 'for every input' (looked for: loops, veiled, ifaces, maps, wideKeys, modest, calm, conditions, laid).
  DERIVED. THE GIVEN ROWS OF THIS SEAT. 2 by the template 'for every input the law returns true; each argument reads behind the call as it read before'; 0 by the template 'total and deterministic' (their statements: YbulkcuzuFmtTotals.lean).
  GIVEN WITH THE SEED: the statements are not yours to turn. If you find one false, say at which input.
  Laid BY PROGRAM, IN A SANDBOX (cutbox-rows.mjs): the forced cells as the released guide's own fill.sh prints them over the translation d5ab60927881278e… (all of the seat's roots in one cut). By AI agents, Wed Nov 11 2026. No macro, syntax, notation, axiom, sorry.
-/
import Derived.Test.YbulkcuzuFmtChecked
import GoSem.Claim
import GoSem.ClaimJoined
import GoSem.ClaimMapViews
import Derived.JoinedTies
import Derived.KernelRfl
namespace Go.Proofs.YbulkcuzuFmt
/- THE CELL 'sum', in the pinned program and in every row, IS THE sha256 OF THE DUMP (.gsa) THAT YbulkcuzuFmtProg.lean LOADS. Nothing in Lean hashes anything: it is a label: what it is worth is what the hold of that sum in a sandbox is worth. -/
noncomputable def Ybaf.pinned : Pinned := { name := "ybulkcuzufmt", sum := "d5ab60927881278e1b7e75965a29d01bd44479085d86b6848472d77f07ffc3be", checked := Ybaf.checked }
namespace Rows
def none {H : Type} : Left H := { results := [], args := [] }

/-- 'protocol.LawS4830AAccepts': WHATEVER THE INPUT: true; the input reads as it did. -/
def lawS4830AAcceptsSpec : ChangeSpec := { name := "lawS4830AAccepts", fn := fun _ => fun
  | [d1, d2, d3, d4] => { results := [.lit (.bool true)], args := [d1, d2, d3, d4] }
  | _ => none }
def lawS4830AAcceptsRow : OpenClaim := { program := "ybulkcuzufmt", sum := "d5ab60927881278e1b7e75965a29d01bd44479085d86b6848472d77f07ffc3be", func := "example.com/ringstead/ringstead/internal/protocol.LawS4830AAccepts", spec := "lawS4830AAccepts", stops := ["fmt.errorf"], inPlace := ["fmt.errorf"], unfollowed := true, recurses := true, apart := false }
/-- NO THEOREM (fmt's text is open here; it may be false): for the released tool's asking of the row's closed facts alone. THE STATEMENT IS 'LawS4830AAcceptsToldSaid' (YbulkcuzuFmtCards.lean). -/
def LawS4830AAcceptsFormAsk : Prop := lawS4830AAcceptsRow.holds Ybaf.pinned (OpenSpec.ofChange lawS4830AAcceptsSpec)

/-- ITS FALSE NEIGHBOUR: 'it returns false'. Refute it at one input. -/
def lawS4830AAcceptsWrong : ChangeSpec := { name := "lawS4830AAccepts", fn := fun _ => fun
  | [d1, d2, d3, d4] => { results := [.lit (.bool false)], args := [d1, d2, d3, d4] }
  | _ => none }
def LawS4830AAcceptsWrongFormAsk : Prop := lawS4830AAcceptsRow.holds Ybaf.pinned (OpenSpec.ofChange lawS4830AAcceptsWrong)

/-- 'protocol.LawS4830AMapped': WHATEVER THE INPUT: true; the input reads as it did. -/
def lawS4830AMappedSpec : ChangeSpec := { name := "lawS4830AMapped", fn := fun _ => fun
  | [d1, d2, d3, d4] => { results := [.lit (.bool true)], args := [d1, d2, d3, d4] }
  | _ => none }
def lawS4830AMappedRow : OpenClaim := { program := "ybulkcuzufmt", sum := "d5ab60927881278e1b7e75965a29d01bd44479085d86b6848472d77f07ffc3be", func := "example.com/ringstead/ringstead/internal/protocol.LawS4830AMapped", spec := "lawS4830AMapped", stops := ["fmt.errorf"], inPlace := ["fmt.errorf"], unfollowed := true, recurses := true, apart := false }
/-- NO THEOREM (fmt's text is open here; it may be false): for the released tool's asking of the row's closed facts alone. THE STATEMENT IS 'LawS4830AMappedToldSaid' (YbulkcuzuFmtCards.lean). -/
def LawS4830AMappedFormAsk : Prop := lawS4830AMappedRow.holds Ybaf.pinned (OpenSpec.ofChange lawS4830AMappedSpec)

/-- ITS FALSE NEIGHBOUR: 'it returns false'. Refute it at one input. -/
def lawS4830AMappedWrong : ChangeSpec := { name := "lawS4830AMapped", fn := fun _ => fun
  | [d1, d2, d3, d4] => { results := [.lit (.bool false)], args := [d1, d2, d3, d4] }
  | _ => none }
def LawS4830AMappedWrongFormAsk : Prop := lawS4830AMappedRow.holds Ybaf.pinned (OpenSpec.ofChange lawS4830AMappedWrong)

end Rows
end Go.Proofs.YbulkcuzuFmt
