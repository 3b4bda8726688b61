/-
  No cell of these rows narrows 'for every input' (looked for: loops, veiled, ifaces, maps, wideKeys, modest, calm, conditions, laid).
  DERIVED. THE GIVEN ROWS OF THIS SEAT. 2 by the template 'for every input the law returns true; each argument reads behind the call as it read before'; 0 by the template 'total and deterministic' (their statements: YbulkcuvmTotals.lean).
  GIVEN WITH THE SEED: the statements are not yours to turn. If you find one false, say at which input.
  Laid BY PROGRAM, IN A SANDBOX (cutbox-rows.mjs): the forced cells as the released guide's own fill.sh prints them over the translation dbbbdb42440b8a56… (all of the seat's roots in one cut). By AI agents, Wed Nov 11 2026. No macro, syntax, notation, axiom, sorry.
-/
import Derived.Test.YbulkcuvmChecked
import GoSem.Claim
import GoSem.ClaimJoined
import GoSem.ClaimMapViews
import Derived.JoinedTies
import Derived.KernelRfl
namespace Go.Proofs.Ybulkcuvm
/- THE CELL 'sum', in the pinned program and in every row, IS THE sha256 OF THE DUMP (.gsa) THAT YbulkcuvmProg.lean LOADS. Nothing in Lean hashes anything: it is a label: what it is worth is what the hold of that sum in a sandbox is worth. -/
noncomputable def Yba.pinned : Pinned := { name := "ybulkcuvm", sum := "dbbbdb42440b8a5623324de62662bf02a5a3f225c8eb21af992d2c441cac4b99", checked := Yba.checked }
namespace Rows
def none {H : Type} : Left H := { results := [], args := [] }

/-- 'tickbook.LawS4822CTable': WHATEVER THE INPUT: true; the input reads as it did. -/
def lawS4822CTableSpec : ChangeSpec := { name := "lawS4822CTable", fn := fun _ => fun
  | [d1, d2] => { results := [.lit (.bool true)], args := [d1, d2] }
  | _ => none }
def lawS4822CTableRow : OpenClaim := { program := "ybulkcuvm", sum := "dbbbdb42440b8a5623324de62662bf02a5a3f225c8eb21af992d2c441cac4b99", func := "example.com/tickbook/tickbook.LawS4822CTable", spec := "lawS4822CTable", apart := false }
def LawS4822CTableSaid : Prop := lawS4822CTableRow.holds Yba.pinned (OpenSpec.ofChange lawS4822CTableSpec)

/-- ITS FALSE NEIGHBOUR: 'it returns false'. Refute it at one input. -/
def lawS4822CTableWrong : ChangeSpec := { name := "lawS4822CTable", fn := fun _ => fun
  | [d1, d2] => { results := [.lit (.bool false)], args := [d1, d2] }
  | _ => none }
def LawS4822CTableWrongFalsely : Prop := lawS4822CTableRow.holds Yba.pinned (OpenSpec.ofChange lawS4822CTableWrong)

/-- 'tickbook.LawS4822CNamed': WHATEVER THE INPUT: true; the input reads as it did. -/
def lawS4822CNamedSpec : ChangeSpec := { name := "lawS4822CNamed", fn := fun _ => fun
  | [d1, d2] => { results := [.lit (.bool true)], args := [d1, d2] }
  | _ => none }
def lawS4822CNamedRow : OpenClaim := { program := "ybulkcuvm", sum := "dbbbdb42440b8a5623324de62662bf02a5a3f225c8eb21af992d2c441cac4b99", func := "example.com/tickbook/tickbook.LawS4822CNamed", spec := "lawS4822CNamed", apart := false }
def LawS4822CNamedSaid : Prop := lawS4822CNamedRow.holds Yba.pinned (OpenSpec.ofChange lawS4822CNamedSpec)

/-- ITS FALSE NEIGHBOUR: 'it returns false'. Refute it at one input. -/
def lawS4822CNamedWrong : ChangeSpec := { name := "lawS4822CNamed", fn := fun _ => fun
  | [d1, d2] => { results := [.lit (.bool false)], args := [d1, d2] }
  | _ => none }
def LawS4822CNamedWrongFalsely : Prop := lawS4822CNamedRow.holds Yba.pinned (OpenSpec.ofChange lawS4822CNamedWrong)

end Rows
end Go.Proofs.Ybulkcuvm
