/- LabelBox.Holds, LabelBox.Meets, LabelBox.Join, readBox.join. -/
import Derived.Test.YbulkcusgRows
import Derived.WalkKit
import Derived.ProofKit
import Derived.Below
import Derived.WalkSmall
import Derived.Deep.QuietTactic
import Derived.BigQuiet
import Derived.BigRegion
namespace Go.Proofs.Ybulkcusg
open Go.RowKit
set_option linter.unusedVariables false

/-- A LabelBox: Lo[0], Lo[1], Hi[0], Hi[1]. -/
abbrev LB := Int × Int × Int × Int
/-- Its four cells. -/
def lbCells (x : LB) : Array Value := #[.int .i64 x.1, .int .i64 x.2.1, .int .i64 x.2.2.1, .int .i64 x.2.2.2]

def holdsB (b o : LB) : Bool := decide (b.1 ≤ o.1) && decide (o.2.2.1 ≤ b.2.2.1) && decide (b.2.1 ≤ o.2.1) && decide (o.2.2.2 ≤ b.2.2.2)
def meetsB (b o : LB) : Bool := decide (b.1 ≤ o.2.2.1) && decide (o.1 ≤ b.2.2.1) && decide (b.2.1 ≤ o.2.2.2) && decide (o.2.1 ≤ b.2.2.2)

theorem rb {a b : Bool} (h : a = b) : Ending.returned (.bool a) = .returned (.bool b) := by rw [h]

set_option maxHeartbeats 1000000 in
theorem holds_any (b o : LB) (w : World) :
    Calls Yba.prog 15 #[.agg (lbCells b), .agg (lbCells o)] w fun e w' => e = .returned (.bool (holdsB b o)) ∧ Below w.heap.size w w' := by
  obtain ⟨b0, b1, b2, b3⟩ := b
  obtain ⟨o0, o1, o2, o3⟩ := o
  simp only [lbCells, holdsB]
  go_enter Yba.func15, Yba.ntmps15
  go_wp2
  all_goals
    go_ret
    exact ⟨rb (by rw [Bool.eq_iff_iff]; simp; try omega), ((Below.refl _ _).alloc (Nat.le_refl _) _).alloc (by simp) _⟩

set_option maxHeartbeats 1000000 in
theorem meets_any (b o : LB) (w : World) :
    Calls Yba.prog 14 #[.agg (lbCells b), .agg (lbCells o)] w fun e w' => e = .returned (.bool (meetsB b o)) ∧ Below w.heap.size w w' := by
  obtain ⟨b0, b1, b2, b3⟩ := b
  obtain ⟨o0, o1, o2, o3⟩ := o
  simp only [lbCells, meetsB]
  go_enter Yba.func14, Yba.ntmps14
  go_wp2
  all_goals
    go_ret
    exact ⟨rb (by rw [Bool.eq_iff_iff]; simp; try omega), ((Below.refl _ _).alloc (Nat.le_refl _) _).alloc (by simp) _⟩

/-- The least box that holds both. -/
def joinB (b o : LB) : LB := (min b.1 o.1, min b.2.1 o.2.1, max b.2.2.1 o.2.2.1, max b.2.2.2 o.2.2.2)

theorem below_three (w : World) (o1 o2 o3 : Obj) : Below w.heap.size w (((w.alloc o1).alloc o2).alloc o3) :=
  (((Below.refl _ _).alloc (Nat.le_refl _) _).alloc (by simp) _).alloc (by simp; omega) _
end Go.Proofs.Ybulkcusg
