/-
  No cell of these rows narrows 'for every input' (looked for: loops, veiled, ifaces, maps, wideKeys, modest, calm, conditions, laid).
  DERIVED. THE GIVEN ROWS OF THIS SEAT. 3 by the template 'for every input the law returns true; each argument reads behind the call as it read before'; 0 by the template 'total and deterministic' (their statements: YbulkcusgTotals.lean).
  GIVEN WITH THE SEED: the statements are not yours to turn. If you find one false, say at which input.
  Laid BY PROGRAM, IN A SANDBOX (cutbox-rows.mjs): the forced cells as the released guide's own fill.sh prints them over the translation 7fbf731182d8a2ee… (all of the seat's roots in one cut). By AI agents, Wed Nov 11 2026. No macro, syntax, notation, axiom, sorry.
-/
import Derived.Test.YbulkcusgChecked
import GoSem.Claim
import GoSem.ClaimJoined
import GoSem.ClaimMapViews
import Derived.JoinedTies
import Derived.KernelRfl
namespace Go.Proofs.Ybulkcusg
/- THE CELL 'sum', in the pinned program and in every row, IS THE sha256 OF THE DUMP (.gsa) THAT YbulkcusgProg.lean LOADS. Nothing in Lean hashes anything: it is a label: what it is worth is what the hold of that sum in a sandbox is worth. -/
noncomputable def Yba.pinned : Pinned := { name := "ybulkcusg", sum := "7fbf731182d8a2ee32ae2c4127a20c6e0163230042a9e5788902c7f1f9e55f60", checked := Yba.checked }
namespace Rows
def none {H : Type} : Left H := { results := [], args := [] }

/-- 'serigraph.LawS4816BFinds': WHATEVER THE INPUT: true; the input reads as it did. -/
def lawS4816BFindsSpec : ChangeSpec := { name := "lawS4816BFinds", fn := fun _ => fun
  | [d1, d2, d3, d4, d5, d6] => { results := [.lit (.bool true)], args := [d1, d2, d3, d4, d5, d6] }
  | _ => none }
def lawS4816BFindsRow : OpenClaim := { program := "ybulkcusg", sum := "7fbf731182d8a2ee32ae2c4127a20c6e0163230042a9e5788902c7f1f9e55f60", func := "example.com/serigraph/serigraph.LawS4816BFinds", spec := "lawS4816BFinds", unfollowed := true, recurses := true, apart := false }
def LawS4816BFindsSaid : Prop := lawS4816BFindsRow.holds Yba.pinned (OpenSpec.ofChange lawS4816BFindsSpec)

/-- ITS FALSE NEIGHBOUR: 'it returns false'. Refute it at one input. -/
def lawS4816BFindsWrong : ChangeSpec := { name := "lawS4816BFinds", fn := fun _ => fun
  | [d1, d2, d3, d4, d5, d6] => { results := [.lit (.bool false)], args := [d1, d2, d3, d4, d5, d6] }
  | _ => none }
def LawS4816BFindsWrongFalsely : Prop := lawS4816BFindsRow.holds Yba.pinned (OpenSpec.ofChange lawS4816BFindsWrong)

/-- 'serigraph.LawS4816CCompact': WHATEVER THE INPUT: true; the input reads as it did. -/
def lawS4816CCompactSpec : ChangeSpec := { name := "lawS4816CCompact", fn := fun _ => fun
  | [d1, d2] => { results := [.lit (.bool true)], args := [d1, d2] }
  | _ => none }
def lawS4816CCompactRow : OpenClaim := { program := "ybulkcusg", sum := "7fbf731182d8a2ee32ae2c4127a20c6e0163230042a9e5788902c7f1f9e55f60", func := "example.com/serigraph/serigraph.LawS4816CCompact", spec := "lawS4816CCompact", apart := false }
def LawS4816CCompactSaid : Prop := lawS4816CCompactRow.holds Yba.pinned (OpenSpec.ofChange lawS4816CCompactSpec)

/-- ITS FALSE NEIGHBOUR: 'it returns false'. Refute it at one input. -/
def lawS4816CCompactWrong : ChangeSpec := { name := "lawS4816CCompact", fn := fun _ => fun
  | [d1, d2] => { results := [.lit (.bool false)], args := [d1, d2] }
  | _ => none }
def LawS4816CCompactWrongFalsely : Prop := lawS4816CCompactRow.holds Yba.pinned (OpenSpec.ofChange lawS4816CCompactWrong)

/-- 'serigraph.LawS4816CConcat': WHATEVER THE INPUT: true; the input reads as it did. -/
def lawS4816CConcatSpec : ChangeSpec := { name := "lawS4816CConcat", fn := fun _ => fun
  | [d1, d2] => { results := [.lit (.bool true)], args := [d1, d2] }
  | _ => none }
def lawS4816CConcatRow : OpenClaim := { program := "ybulkcusg", sum := "7fbf731182d8a2ee32ae2c4127a20c6e0163230042a9e5788902c7f1f9e55f60", func := "example.com/serigraph/serigraph.LawS4816CConcat", spec := "lawS4816CConcat", apart := false }
def LawS4816CConcatSaid : Prop := lawS4816CConcatRow.holds Yba.pinned (OpenSpec.ofChange lawS4816CConcatSpec)

/-- ITS FALSE NEIGHBOUR: 'it returns false'. Refute it at one input. -/
def lawS4816CConcatWrong : ChangeSpec := { name := "lawS4816CConcat", fn := fun _ => fun
  | [d1, d2] => { results := [.lit (.bool false)], args := [d1, d2] }
  | _ => none }
def LawS4816CConcatWrongFalsely : Prop := lawS4816CConcatRow.holds Yba.pinned (OpenSpec.ofChange lawS4816CConcatWrong)

end Rows
end Go.Proofs.Ybulkcusg
