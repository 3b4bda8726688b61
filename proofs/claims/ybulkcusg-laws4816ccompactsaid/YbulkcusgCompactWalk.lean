import Derived.Test.YbulkcusgCompactCalls
namespace Go.Proofs.Ybulkcusg
open Go.RowKit

theorem runsTo_below {B : Nat} {w w' : World} {g len k : Nat} {zs : List Int} (h : RunsTo w g len k zs) (hb : Below B w w') (hg : g < B) : RunsTo w' g len k zs := by
  obtain ⟨cs, hh, r⟩ := h
  exact ⟨cs, by rw [hb.block g hg]; exact hh, r⟩

set_option maxHeartbeats 1000000 in
theorem compact_short (a : Option Addr) (len cap : Nat) (A : List Int) (ka : Option Addr) (klen kcap : Nat) (ks : List Int) (w : World)
    (hl : len ≤ 1024) (hc : len ≤ cap) (hA : A.length = len) (hkl : klen ≤ maxLen) (r : RowAt .i64 w a len A) (kr : RowAt .u8 w ka klen ks) :
    Calls Yba.prog 4 #[.slice a len cap, .slice ka klen kcap] w fun e w' => e = .returned (.bool true) ∧ Below w.heap.size w w' := by
  have hg0 : decide ((1024 : Int) < (len : Int)) = false := decide_eq_false (by omega)
  have HA : Hid (A.length = len) := hA
  clear hA
  go_enter Yba.func4, Yba.ntmps4
  go_wp2_with fail
  refine (runs_any a len cap A ka klen kcap ks _ (by omega) hc hkl r kr).mono ?_
  rintro e w1 ⟨rfl, b1, hrun1⟩
  have r1 := rowAt_below r b1
  have g1 := runsTo_lt hrun1
  go_wp2_with fail
  refine (clone_any a len cap A _ hl HA.out r1).mono ?_
  rintro e w2 ⟨a2, cap2, rfl, b12, hcopy⟩
  go_wp2_with fail
  refine (compact_any w1.heap.size a2 len cap2 A _ hl hcopy).mono ?_
  rintro e w3 ⟨a3, cap3, rfl, b23⟩
  have b13 : Below w1.heap.size w1 w3 := b12.trans b23
  have b3 : Below w.heap.size w w3 := b1.trans (b13.mono b1.size)
  have hrun3 := runsTo_below hrun1 b13 g1
  have g3 := runsTo_lt hrun3
  clear hcopy hrun1 b12 b23 b13 r1
  go_wp2_with fail
  refine (distinct_any w.heap.size len A _ (by omega) g3 hrun3).mono ?_
  rintro e w4 ⟨rfl, b34⟩
  have b4 : Below w.heap.size w w4 := b3.trans (b34.mono b3.size)
  have hrun4 := runsTo_below hrun3 b34 g3
  have r4 := rowAt_below r b4
  clear hrun3 b34 b3 b1 r kr
  have hne : (((cnt A len : Nat) : Int) != ((cnt A len : Nat) : Int)) = false := by simp
  have hcl := cnt_le A len
  generalize cnt A len = d at *
  go_wp2
  go_loopw [26] (fun i wr => ∃ k : Nat, k ≤ len ∧ i = .int .i64 k ∧ Below w.heap.size w wr ∧ RunsTo wr w.heap.size len len A ∧ RowAt .i64 wr a len A) (fun i _ => len - (intOf i).toNat)
  case atStart => exact ⟨0, Nat.zero_le _, rfl, b4, hrun4, r4⟩
  case round =>
    obtain ⟨k, hk, rfl, hb, hrun, hrow⟩ := hrel
    by_cases hlt : k < len
    · obtain ⟨b, off, rfl, _, hcell⟩ := hrow.2 k hlt
      obtain ⟨cs, hheap, hsz, hcs⟩ := hrun
      have hcc : ∀ o, wr.cell? ⟨w.heap.size, o, none⟩ = cs[o]? := fun o => cell_of_row wr _ o cs 47 (0, 0) hheap
      obtain ⟨c0, c2, c3, q1, c1⟩ := hcs k hlt
      have g0 : wr.cell? ⟨w.heap.size, k * 4, none⟩ = some (.int .i64 (A.getD k 0)) := by rw [hcc]; exact c0
      have g2 : wr.cell? ⟨w.heap.size, k * 4 + 2, none⟩ = some (.int .i64 k) := by rw [hcc]; exact c2
      have g3' : wr.cell? ⟨w.heap.size, k * 4 + 3, none⟩ = some (.int .i64 (k + 1)) := by rw [hcc]; exact c3
      have HR : Hid (RunsTo wr w.heap.size len len A) := ⟨cs, hheap, hsz, hcs⟩
      clear hcc c0 c1 c2 c3 hcs hheap hsz
      have hlt' : (k : Int) < (len : Int) := by omega
      have hk0 : (0 : Int) ≤ (k : Int) := by omega
      have hwr : IntKind.i64.wrap ((k : Int) + 1) = (k : Int) + 1 := Go.IntWalk.i64_in _ (by omega)
      have hx : ∀ x : Int, (x != x) = false := by simp
      go_wp2
      go_quiet (fail)
      go_wp2
      go_roundw
      case rel => exact ⟨k + 1, by omega, by go_num, below_drewN hb _, HR.out, hrow⟩
      case measure => simp [intOf]; omega
    · go_wp2
      go_ret
      exact ⟨rfl, hb⟩
end Go.Proofs.Ybulkcusg
