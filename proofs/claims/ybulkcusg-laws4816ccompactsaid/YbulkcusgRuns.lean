import Derived.Test.YbulkcusgRows
import Derived.WalkKit
import Derived.ProofKit
import Derived.OpenShut
import Derived.Below
import Derived.Deep.QuietTactic
import Derived.BigQuiet
namespace Go.Proofs.Ybulkcusg
open Go.RowKit

theorem Yba.info47 : (Yba.prog.info? 47).map (fun i => (i.zero, i.size, i.bytes)) = some (some (.agg #[.int .i64 0, .int .i64 0, .int .i64 0, .int .i64 0]), 4, 32) := by kernel_rfl
theorem Yba.cells47 : Yba.prog.cellsOf 47 = 4 := by kernel_rfl

/-- A slice of integers as a walk reads it: the first 'len' cells. -/
def RowAt (k : IntKind) (w : World) (a : Option Addr) (len : Nat) (zs : List Int) : Prop :=
  len ≤ zs.length ∧ ∀ i, i < len → ∃ b off, a = some ⟨b, off, none⟩ ∧ b < w.heap.size ∧ w.cell? ⟨b, off + i, none⟩ = some (.int k (zs.getD i 0))

/-- The block of runs behind k rounds. -/
def RunsTo (w : World) (g len k : Nat) (zs : List Int) : Prop :=
  ∃ cs : Array Value, w.heap[g]? = some (.cells cs 47 (0, 0)) ∧ cs.size = len * 4 ∧ ∀ j, j < k → cs[j * 4]? = some (.int .i64 (zs.getD j 0)) ∧ cs[j * 4 + 2]? = some (.int .i64 j) ∧ cs[j * 4 + 3]? = some (.int .i64 (j + 1)) ∧ ∃ q : Int, cs[j * 4 + 1]? = some (.int .i64 q)

theorem runsTo_step {w : World} {g len k : Nat} {zs : List Int} {cs : Array Value} (hh : w.heap[g]? = some (.cells cs 47 (0, 0))) (hsz : cs.size = len * 4) (hk : k < len) (x : Int)
    (hcs : ∀ j, j < k → cs[j * 4]? = some (.int .i64 (zs.getD j 0)) ∧ cs[j * 4 + 2]? = some (.int .i64 j) ∧ cs[j * 4 + 3]? = some (.int .i64 (j + 1)) ∧ ∃ q : Int, cs[j * 4 + 1]? = some (.int .i64 q)) :
    RunsTo ((((w.setCell ⟨g, k * 4, none⟩ (.int .i64 (zs[k]?.getD 0))).setCell ⟨g, k * 4 + 1, none⟩ (.int .i64 x)).setCell ⟨g, k * 4 + 2, none⟩ (.int .i64 k)).setCell ⟨g, k * 4 + 3, none⟩ (.int .i64 (k + 1))) g len (k + 1) zs := by
  have h1 := heap_setCell_same w g (k * 4) cs 47 (.int .i64 (zs[k]?.getD 0)) hh
  have h2 := heap_setCell_same _ g (k * 4 + 1) _ 47 (.int .i64 x) h1
  have h3 := heap_setCell_same _ g (k * 4 + 2) _ 47 (.int .i64 k) h2
  have h4 := heap_setCell_same _ g (k * 4 + 3) _ 47 (.int .i64 (k + 1)) h3
  refine ⟨_, h4, by simpa using hsz, fun j hj => ?_⟩
  simp only [Array.getElem?_setIfInBounds, Array.size_setIfInBounds]
  by_cases hjk : j = k
  · subst hjk
    refine ⟨?_, ?_, ?_, x, ?_⟩
    · rw [if_neg (by omega), if_neg (by omega), if_neg (by omega), if_pos rfl, if_pos (by omega)]
      simp [List.getD]
    · rw [if_neg (by omega), if_pos rfl, if_pos (by omega)]
    · rw [if_pos rfl, if_pos (by omega)]
    · rw [if_neg (by omega), if_neg (by omega), if_pos rfl, if_pos (by omega)]
  · obtain ⟨c1, c2, c3, q, c4⟩ := hcs j (by omega)
    refine ⟨?_, ?_, ?_, q, ?_⟩
    · rw [if_neg (by omega), if_neg (by omega), if_neg (by omega), if_neg (by omega)]; exact c1
    · rw [if_neg (by omega), if_neg (by omega), if_neg (by omega), if_neg (by omega)]; exact c2
    · rw [if_neg (by omega), if_neg (by omega), if_neg (by omega), if_neg (by omega)]; exact c3
    · rw [if_neg (by omega), if_neg (by omega), if_neg (by omega), if_neg (by omega)]; exact c4

theorem below_four {w0 w : World} {g a1 a2 a3 a4 : Nat} {x1 x2 x3 x4 : Value} (h : Below g w0 w) :
    Below g w0 ((((w.setCell ⟨g, a1, none⟩ x1).setCell ⟨g, a2, none⟩ x2).setCell ⟨g, a3, none⟩ x3).setCell ⟨g, a4, none⟩ x4) :=
  (((h.setCell (Nat.le_refl _) _).setCell (Nat.le_refl _) _).setCell (Nat.le_refl _) _).setCell (Nat.le_refl _) _

theorem runsTo_zero {w : World} {base len : Nat} {xs : List Value} {zs : List Int} {g : Nat} (h : w.ownsRow base 47 4 (.slice (some ⟨g, 0, none⟩) len len) len xs) : RunsTo w g len 0 zs := by
  rcases h.2 with ⟨h', _⟩ | ⟨g', cap', cur, h', _, hg, _, _, hs, _⟩
  · simp at h'
  · simp only [Value.slice.injEq, Option.some.injEq, Addr.mk.injEq, and_true, true_and] at h'
    obtain ⟨rfl, rfl⟩ := h'
    exact ⟨cur, hg, hs, fun j hj => absurd hj (by omega)⟩

set_option maxHeartbeats 400000 in
theorem runs_any (a : Option Addr) (len cap : Nat) (zs : List Int) (ka : Option Addr) (klen kcap : Nat) (ks : List Int) (w : World) (hl : len ≤ 2048) (hlc : len ≤ cap) (hkl : klen ≤ maxLen)
    (hr : RowAt .i64 w a len zs) (hk : RowAt .u8 w ka klen ks) :
    Calls Yba.prog 8 #[.slice a len cap, .slice ka klen kcap] w fun e w' => e = .returned (.slice (some ⟨w.heap.size, 0, none⟩) len len) ∧ Below w.heap.size w w' ∧ RunsTo w' w.heap.size len len zs := by
  obtain ⟨i0, hi, hz0, hz1, hz2⟩ := info_parts Yba.info47
  unfold maxLen at hkl
  go_enter Yba.func8, Yba.ntmps8
  go_wp2_with (first
    | (refine wpList_make_full _ rfl _ _ 41 rfl w.heap.size 47 i0 _ 4 Yba.underlying41 hi hz0 hz1 .i64 .i64 (len : Int) (len : Int) len rfl rfl rfl rfl (by rw [hz2]; omega) (by unfold maxLen; omega) (Nat.le_refl _) ?_))
  intro w1 hown hgrow
  go_wp2
  go_loopw [14] (fun i wr => ∃ k : Nat, k ≤ len ∧ i = .int .i64 k ∧ Below w.heap.size w wr ∧ RunsTo wr w.heap.size len k zs) (fun i _ => len - (intOf i).toNat)
  case atStart => exact ⟨0, Nat.zero_le _, rfl, (Below.refl _ _).grown hgrow (Nat.le_refl _) (fun k hk => by cases hk), runsTo_zero hown⟩
  case round =>
    obtain ⟨k, hk1, rfl, hbel, hruns⟩ := hrel
    by_cases hlt : k < len
    · obtain ⟨b, off, rfl, hb, hcell⟩ := hr.2 k hlt
      have hcell' := (hbel.cell (p := ⟨b, off + k, none⟩) hb).trans hcell
      obtain ⟨cs, hheap, hsz, hcs⟩ := hruns
      have hex : ∀ j, j < 4 → ∃ v, wr.cell? ⟨w.heap.size, k * 4 + j, none⟩ = some v := by
        intro j hj
        exact ⟨cs[k * 4 + j]'(by omega), by rw [cell_of_row wr _ _ cs 47 (0, 0) hheap]; simp⟩
      obtain ⟨v0, hv0⟩ := hex 0 (by omega)
      obtain ⟨v1, hv1⟩ := hex 1 (by omega)
      obtain ⟨v2, hv2⟩ := hex 2 (by omega)
      obtain ⟨v3, hv3⟩ := hex 3 (by omega)
      simp only [Nat.add_zero] at hv0
      have hf0 : wr.frozen? ⟨w.heap.size, k * 4, none⟩ = false := frozen_of_row wr _ _ cs 47 hheap
      have hf1 : wr.frozen? ⟨w.heap.size, k * 4 + 1, none⟩ = false := frozen_of_row wr _ _ cs 47 hheap
      have hf2 : wr.frozen? ⟨w.heap.size, k * 4 + 2, none⟩ = false := frozen_of_row wr _ _ cs 47 hheap
      have hf3 : wr.frozen? ⟨w.heap.size, k * 4 + 3, none⟩ = false := frozen_of_row wr _ _ cs 47 hheap
      clear hex
      by_cases hkk : k < klen
      · obtain ⟨kb, koff, rfl, hkb, hkcell⟩ := hk.2 k hkk
        have hkcell' := (hbel.cell (p := ⟨kb, koff + k, none⟩) hkb).trans hkcell
        go_wp2
        go_roundw
        case rel => exact ⟨k + 1, by omega, by go_num, below_four hbel, runsTo_step hheap hsz hlt _ hcs⟩
        case measure => simp [intOf]; omega
      · go_wp2
        go_roundw
        case rel => exact ⟨k + 1, by omega, by go_num, below_four hbel, runsTo_step hheap hsz hlt _ hcs⟩
        case measure => simp [intOf]; omega
    · go_wp2
      go_ret
      obtain rfl : k = len := by omega
      exact ⟨rfl, hbel, hruns⟩
end Go.Proofs.Ybulkcusg
