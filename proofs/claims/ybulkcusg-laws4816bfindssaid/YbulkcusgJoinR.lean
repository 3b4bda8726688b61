/- readBox.join. -/
import Derived.Test.YbulkcusgJoin
import Derived.Test.YbulkcusgRowMem
import Derived.Test.YbulkcusgTail
namespace Go.Proofs.Ybulkcusg
open Go.RowKit
set_option linter.unusedVariables false

set_option maxHeartbeats 2000000 in
theorem joinR_any (x y : RB) (w : World) :
    Calls Yba.prog 20 #[.agg (rbList x).toArray, .agg (rbList y).toArray] w fun e w' => e = .returned (.agg (rbList (joinR x y)).toArray) ∧ Below w.heap.size w w' := by
  obtain ⟨⟨x0, x1, x2, x3⟩, x4⟩ := x
  obtain ⟨⟨y0, y1, y2, y3⟩, y4⟩ := y
  have hcon := fun W => labelJoin_any (x0, x1, x2, x3) (y0, y1, y2, y3) W
  have em : min x4 y4 = if y4 < x4 then y4 else x4 := by split <;> omega
  simp only [rbList, joinR, em, lbCells] at hcon ⊢
  obtain ⟨m4, h4⟩ : ∃ m, (if y4 < x4 then y4 else x4) = m := ⟨_, rfl⟩
  rw [h4]
  generalize joinB (x0, x1, x2, x3) (y0, y1, y2, y3) = J at hcon ⊢
  obtain ⟨j0, j1, j2, j3⟩ := J
  simp only at hcon ⊢
  go_enter Yba.func20, Yba.ntmps20
  go_wp2
  generalize hwq : ((w.alloc (.cells #[.int .i64 x0, .int .i64 x1, .int .i64 x2, .int .i64 x3, .int .i64 x4] 55)).alloc (.cells #[.int .i64 y0, .int .i64 y1, .int .i64 y2, .int .i64 y3, .int .i64 y4] 55)).alloc (.cells #[.int .i64 0, .int .i64 0, .int .i64 0, .int .i64 0, .int .i64 0] 55) = wq
  have hB : Below w.heap.size w wq := by rw [← hwq]; exact below_three _ _ _ _
  obtain ⟨hx, hy, hz⟩ : wq.heap[w.heap.size]? = _ ∧ wq.heap[w.heap.size + 1]? = _ ∧ wq.heap[w.heap.size + 1 + 1]? = _ := by rw [← hwq]; exact heap_three _ _ _ _
  have cx0 : ∀ p, (ext wq p).cell? ⟨w.heap.size, 0, none⟩ = some (.int .i64 x0) := block_ext hx rfl
  have cx1 : ∀ p, (ext wq p).cell? ⟨w.heap.size, 1, none⟩ = some (.int .i64 x1) := block_ext hx rfl
  have cx2 : ∀ p, (ext wq p).cell? ⟨w.heap.size, 2, none⟩ = some (.int .i64 x2) := block_ext hx rfl
  have cx3 : ∀ p, (ext wq p).cell? ⟨w.heap.size, 3, none⟩ = some (.int .i64 x3) := block_ext hx rfl
  have cx4 : ∀ p, (ext wq p).cell? ⟨w.heap.size, 4, none⟩ = some (.int .i64 x4) := block_ext hx rfl
  have cy0 : ∀ p, (ext wq p).cell? ⟨w.heap.size + 1, 0, none⟩ = some (.int .i64 y0) := block_ext hy rfl
  have cy1 : ∀ p, (ext wq p).cell? ⟨w.heap.size + 1, 1, none⟩ = some (.int .i64 y1) := block_ext hy rfl
  have cy2 : ∀ p, (ext wq p).cell? ⟨w.heap.size + 1, 2, none⟩ = some (.int .i64 y2) := block_ext hy rfl
  have cy3 : ∀ p, (ext wq p).cell? ⟨w.heap.size + 1, 3, none⟩ = some (.int .i64 y3) := block_ext hy rfl
  have cy4 : ∀ p, (ext wq p).cell? ⟨w.heap.size + 1, 4, none⟩ = some (.int .i64 y4) := block_ext hy rfl
  have cz0 : ∀ p, (ext wq p).cell? ⟨w.heap.size + 1 + 1, 0, none⟩ = some (.int .i64 0) := block_ext hz rfl
  have cz1 : ∀ p, (ext wq p).cell? ⟨w.heap.size + 1 + 1, 1, none⟩ = some (.int .i64 0) := block_ext hz rfl
  have cz2 : ∀ p, (ext wq p).cell? ⟨w.heap.size + 1 + 1, 2, none⟩ = some (.int .i64 0) := block_ext hz rfl
  have cz3 : ∀ p, (ext wq p).cell? ⟨w.heap.size + 1 + 1, 3, none⟩ = some (.int .i64 0) := block_ext hz rfl
  have cz4 : ∀ p, (ext wq p).cell? ⟨w.heap.size + 1 + 1, 4, none⟩ = some (.int .i64 0) := block_ext hz rfl
  have f0 : ∀ p, (ext wq p).frozen? ⟨w.heap.size + 1 + 1, 0, none⟩ = false := block_ext_free hz
  have f1 : ∀ p, (ext wq p).frozen? ⟨w.heap.size + 1 + 1, 1, none⟩ = false := block_ext_free hz
  have f2 : ∀ p, (ext wq p).frozen? ⟨w.heap.size + 1 + 1, 2, none⟩ = false := block_ext_free hz
  have f3 : ∀ p, (ext wq p).frozen? ⟨w.heap.size + 1 + 1, 3, none⟩ = false := block_ext_free hz
  have f4 : ∀ p, (ext wq p).frozen? ⟨w.heap.size + 1 + 1, 4, none⟩ = false := block_ext_free hz
  clear hwq hx hy hz
  refine wp_region_ext_tail 11 (by kernel_rfl) (by kernel_rfl) ?_
  simp only [List.take_succ_cons, List.take_zero, List.drop_succ_cons, List.drop_zero]
  repeat (quiet_step ((go_at_call 24; exact calls_ext (hcon _))))
  refine wpQuiet_nil ?_
  rintro _ ⟨p, rfl⟩
  go_wp2
  refine bodyPost_ret (v := .agg #[.int .i64 j0, .int .i64 j1, .int .i64 j2, .int .i64 j3, .int .i64 m4]) (by simp [results, Yba.results20, go_sem, cz0, cz1, cz2, cz3, cz4]) rfl ⟨rfl, ?_⟩
  have hle : w.heap.size ≤ w.heap.size + 1 + 1 := by omega
  exact (((((hB.trans ((below_ext wq p).mono hB.size)).setCell hle _).setCell hle _).setCell hle _).setCell hle _).setCell hle _
end Go.Proofs.Ybulkcusg
