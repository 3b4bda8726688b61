import Derived.Test.YbulkcusgRuns
import Derived.Test.YbulkcusgPlain
import Derived.WalkSmall
namespace Go.Proofs.Ybulkcusg
open Go.RowKit

theorem int_eq {a b : Int} (h : a = b) : Value.int .i64 a = .int .i64 b := by rw [h]

theorem cnt_hit (zs : List Int) (m : Nat) (h : (zs[m + 1]?.getD 0 != zs[m]?.getD 0) = true) : cnt zs (m + 1 + 1) = cnt zs (m + 1) + 1 := by
  rw [cnt.eq_2 zs (m + 1), if_pos (.inr (by simpa [List.getD] using h))]

theorem cnt_miss (zs : List Int) (m : Nat) (h : (zs[m + 1]?.getD 0 != zs[m]?.getD 0) = false) : cnt zs (m + 1 + 1) = cnt zs (m + 1) := by
  rw [cnt.eq_2 zs (m + 1), if_neg]
  · rfl
  · rintro (h0 | h0)
    · omega
    · exact h0 (by simpa [List.getD] using h)

set_option maxHeartbeats 1000000 in
theorem distinct_any (g len : Nat) (zs : List Int) (w : World) (hl : len ≤ 2048) (hg : g < w.heap.size) (hr : RunsTo w g len len zs) :
    Calls Yba.prog 11 #[.slice (some ⟨g, 0, none⟩) len len] w fun e w' => e = .returned (.int .i64 (cnt zs len)) ∧ Below w.heap.size w w' := by
  obtain ⟨cs, hheap, hsz, hcs⟩ := hr
  go_enter Yba.func11, Yba.ntmps11
  go_wp2
  go_loopw [3, 8] (fun n i wr => ∃ k : Nat, k ≤ len ∧ i = .int .i64 k ∧ n = .int .i64 (cnt zs k) ∧ Below w.heap.size w wr) (fun _ i _ => len - (intOf i).toNat)
  case atStart => exact ⟨0, Nat.zero_le _, rfl, rfl, Below.refl _ _⟩
  case round =>
    obtain ⟨k, hk, rfl, rfl, hbel⟩ := hrel
    have hbc : ∀ o, wr.cell? ⟨g, o, none⟩ = w.cell? ⟨g, o, none⟩ := fun o => hbel.cell (p := ⟨g, o, none⟩) hg
    have hcc : ∀ o, w.cell? ⟨g, o, none⟩ = cs[o]? := fun o => cell_of_row w g o cs 47 (0, 0) hheap
    by_cases hlt : k < len
    · obtain ⟨c0, c2, c3, q1, c1⟩ := hcs k hlt
      have g0 : wr.cell? ⟨g, k * 4, none⟩ = some (.int .i64 (zs.getD k 0)) := by rw [hbc, hcc]; exact c0
      have g2 : wr.cell? ⟨g, k * 4 + 2, none⟩ = some (.int .i64 k) := by rw [hbc, hcc]; exact c2
      have g3 : wr.cell? ⟨g, k * 4 + 3, none⟩ = some (.int .i64 (k + 1)) := by rw [hbc, hcc]; exact c3
      have g1 : wr.cell? ⟨g, k * 4 + 1, none⟩ = some (.int .i64 q1) := by rw [hbc, hcc]; exact c1
      have hgr : g < wr.heap.size := Nat.lt_of_lt_of_le hg hbel.size
      by_cases h0 : k = 0
      · subst h0
        clear hbc hcc c0 c1 c2 c3 hcs
        simp only [Nat.zero_mul, Nat.zero_add] at g0 g1 g2 g3
        have hc0 : cnt zs 0 = 0 := rfl
        go_wp2
        go_quiet (fail)
        go_wp2
        go_roundw
        case rel => exact ⟨1, by omega, by go_num, rfl, below_drewN (hbel.alloc hbel.size _) _⟩
        case measure => simp [intOf]; omega
      · obtain ⟨m, rfl⟩ : ∃ m, k = m + 1 := ⟨k - 1, by omega⟩
        have gm : wr.cell? ⟨g, m * 4, none⟩ = some (.int .i64 (zs.getD m 0)) := by rw [hbc, hcc]; exact (hcs m (by omega)).1
        clear hbc hcc c0 c1 c2 c3 hcs
        have hcl := cnt_le zs (m + 1)
        have hmn : (m : Int) < (len : Int) := by omega
        have hm0 : (0 : Int) ≤ (m : Int) := by omega
        have hz : (((m : Int) + 1) == 0) = false := beq_eq_false_iff_ne.2 (by omega)
        have hwr : IntKind.i64.wrap (m : Int) = (m : Int) := Go.IntWalk.i64_in _ (by omega)
        go_wp2
        go_quiet (fail)
        go_wp2
        · go_roundw
          case rel => exact ⟨m + 1 + 1, by omega, by go_num, int_eq (by rw [cnt_hit zs m (by assumption)]; omega), below_drewN (hbel.alloc hbel.size _) _⟩
          case measure => simp [intOf]; omega
        · go_roundw
          case rel => exact ⟨m + 1 + 1, by omega, by go_num, int_eq (by rw [cnt_miss zs m (by assumption)]), below_drewN (hbel.alloc hbel.size _) _⟩
          case measure => simp [intOf]; omega
    · go_wp2
      go_ret
      obtain rfl : k = len := by omega
      exact ⟨rfl, hbel⟩
end Go.Proofs.Ybulkcusg
