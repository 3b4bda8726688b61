/- LabelBox.Join: two rounds of a region that draws its order and stores. -/
import Derived.Test.YbulkcusgBoxes
import Derived.BigRegion
namespace Go.Proofs.Ybulkcusg
open Go.RowKit
set_option linter.unusedVariables false

set_option maxHeartbeats 4000000 in
theorem labelJoin_any (b o : LB) (w : World) :
    Calls Yba.prog 24 #[.agg (lbCells b), .agg (lbCells o)] w fun e w' => e = .returned (.agg (lbCells (joinB b o))) ∧ Below w.heap.size w w' := by
  obtain ⟨b0, b1, b2, b3⟩ := b
  obtain ⟨o0, o1, o2, o3⟩ := o
  have e0 : min b0 o0 = if o0 < b0 then o0 else b0 := by split <;> omega
  have e1 : min b1 o1 = if o1 < b1 then o1 else b1 := by split <;> omega
  have e2 : max b2 o2 = if b2 < o2 then o2 else b2 := by split <;> omega
  have e3 : max b3 o3 = if b3 < o3 then o3 else b3 := by split <;> omega
  simp only [lbCells, joinB, e0, e1, e2, e3]
  clear e0 e1 e2 e3
  obtain ⟨m0, h0⟩ : ∃ m, (if o0 < b0 then o0 else b0) = m := ⟨_, rfl⟩
  obtain ⟨m1, h1⟩ : ∃ m, (if o1 < b1 then o1 else b1) = m := ⟨_, rfl⟩
  obtain ⟨m2, h2⟩ : ∃ m, (if b2 < o2 then o2 else b2) = m := ⟨_, rfl⟩
  obtain ⟨m3, h3⟩ : ∃ m, (if b3 < o3 then o3 else b3) = m := ⟨_, rfl⟩
  rw [h0, h1, h2, h3]
  go_enter Yba.func24, Yba.ntmps24
  go_wp2
  refine wp_loop_rounds 3 ?_
  rw [rounds_succ]
  go_wp2
  go_region
  go_wp2
  rw [rounds_succ]
  go_wp2
  go_region
  go_wp2
  rw [rounds_succ]
  go_wp2
  refine bodyPost_ret (v := .agg #[.int .i64 m0, .int .i64 m1, .int .i64 m2, .int .i64 m3]) (by simp [results, Yba.results24, go_sem]) rfl ⟨rfl, ?_⟩
  exact (below_three w _ _ _).drew.drew
end Go.Proofs.Ybulkcusg
