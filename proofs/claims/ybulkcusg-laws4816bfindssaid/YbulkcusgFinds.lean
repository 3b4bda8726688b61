/- The walk of LawS4816BFinds. -/
import Derived.Test.YbulkcusgBBuild
namespace Go.Proofs.Ybulkcusg
open Go.RowKit Go.Sort
set_option linter.unusedVariables false

set_option maxHeartbeats 1000000 in
theorem finds_long (a : Option Addr) (n cap : Nat) (sel e0 e1 e2 e3 : Int) (w : World) (h : 1024 < n) :
    Calls Yba.prog 3 #[.slice a n cap, .int .u64 sel, .int .u8 e0, .int .u8 e1, .int .u8 e2, .int .u8 e3] w fun e w' => e = .returned (.bool true) ∧ Below w.heap.size w w' := by
  have hg : (1024 : Int) < (n : Int) := by omega
  go_enter Yba.func3, Yba.ntmps3
  go_wp2
  go_ret
  exact ⟨rfl, Below.refl _ _⟩

set_option maxHeartbeats 1000000 in
theorem finds_none (a : Option Addr) (cap : Nat) (sel e0 e1 e2 e3 : Int) (w : World) :
    Calls Yba.prog 3 #[.slice a 0 cap, .int .u64 sel, .int .u8 e0, .int .u8 e1, .int .u8 e2, .int .u8 e3] w fun e w' => e = .returned (.bool true) ∧ Below w.heap.size w w' := by
  go_enter Yba.func3, Yba.ntmps3
  go_wp2
  go_ret
  exact ⟨rfl, Below.refl _ _⟩

set_option maxHeartbeats 4000000 in
theorem finds_some (b off n cap : Nat) (rs : Nat → RD) (sel e0 e1 e2 e3 : Int) (w : World) (hn : n ≤ 1024) (hpos : 0 < n) (hs0 : 0 ≤ sel) (hs1 : sel ≤ 18446744073709551615)
    (h0 : 0 ≤ e0 ∧ e0 ≤ 255) (h1 : 0 ≤ e1 ∧ e1 ≤ 255) (h2 : 0 ≤ e2 ∧ e2 ≤ 255) (h3 : 0 ≤ e3 ∧ e3 ≤ 255) (hr : RsAt w b off n rs) (hat : ∀ i, i < n → -9223372036854775808 ≤ (rs i).2.2.2.2 ∧ (rs i).2.2.2.2 ≤ 9223372036854775807) :
    Calls Yba.prog 3 #[.slice (some ⟨b, off, none⟩) n cap, .int .u64 sel, .int .u8 e0, .int .u8 e1, .int .u8 e2, .int .u8 e3] w fun e w' => e = .returned (.bool true) ∧ Below w.heap.size w w' := by
  have hg : ¬ (1024 : Int) < (n : Int) := by omega
  have hg' : decide ((1024 : Int) < (n : Int)) = false := decide_eq_false hg
  have hz : ((n : Int) == 0) = false := beq_eq_false_iff_ne.2 (by omega)
  obtain ⟨k, hk⟩ : ∃ k : Nat, sel % (n : Int) = (k : Int) := ⟨(sel % (n : Int)).toNat, by have := Int.emod_nonneg sel (show (n : Int) ≠ 0 by omega); omega⟩
  have hkn : (k : Int) < (n : Int) := by have := Int.emod_lt_of_pos sel (show (0 : Int) < n by omega); omega
  have hk' : sel.tmod (n : Int) = (k : Int) := by rw [Int.tmod_eq_emod_of_nonneg hs0]; exact hk
  have hk0 : (0 : Int) ≤ (k : Int) := by omega
  obtain ⟨hbl, hrs⟩ := id hr
  obtain ⟨r0, r1, r2, r3, r4, i1, i2, i3, i4, i5, i6, i7, i8⟩ := hrs k (by omega)
  have at0 := hat k (by omega)
  clear hrs hat hg
  obtain ⟨rk, hrk⟩ : ∃ r, r = rs k := ⟨_, rfl⟩
  rw [← hrk] at r0 r1 r2 r3 r4 i1 i2 i3 i4 i5 i6 i7 i8 at0
  have HR : Hid (rk = rs k) := hrk
  clear hrk
  obtain ⟨a0, a1, a2, a3, a4⟩ := rk
  simp only at r0 r1 r2 r3 r4 i1 i2 i3 i4 i5 i6 i7 i8 at0
  have hbb := bbuild_any b off n cap rs w hn hpos hr
  clear hr
  by_cases hmax : a4 = 9223372036854775807
  · subst hmax
    go_enter Yba.func3, Yba.ntmps3
    go_wp2
    go_ret
    exact ⟨rfl, Below.refl _ _⟩
  · have hm : (a4 == 9223372036854775807) = false := beq_eq_false_iff_ne.2 hmax
    go_enter Yba.func3, Yba.ntmps3
    go_wp2_with fail
    refine hbb.mono ?_
    rintro e w1 ⟨R, S, G, T, d, s, rfl, b1, hR, hS, ht, hcv, hG⟩
    obtain ⟨c0, c1, c2, c3⟩ := hG.cells (j := k) (by omega)
    have hGl := hG.lt
    simp only [← HR.out, boxOf] at c0 c1 c2 c3
    have hfin : bi d s (a0 - e0, a1 - e1, a0 + a2 + e2, a1 + a3 + e3) (a4 + 1) n 0 n = true := by
      obtain ⟨j, hj, hdj⟩ := hcv k (by omega)
      rw [← HR.out] at hdj
      refine bi_finds d s _ _ n 0 n j (by omega) ht (by omega) hj ?_ ?_ ?_ ?_ <;> rw [hdj]
      · unfold holdsB boxOf; simp; omega
      · show a4 < a4 + 1; omega
      · show a0 ≤ a0 + a2; omega
      · show a1 ≤ a1 + a3; omega
    have hbe := fun W (hW : Below w1.heap.size w1 W) => before_any R S n hn (a0 - e0, a1 - e1, a0 + a2 + e2, a1 + a3 + e3) (a4 + 1) d s n 0 n W (by omega) (by omega) (Nat.le_refl _) (hR.below hW) (hS.below hW)
    rw [hfin] at hbe
    rw [show ((0 : Nat) : Int) = 0 from rfl] at hbe
    simp only [lbCells] at hbe
    clear hfin hbb hcv ht hG
    go_wp2_with fail
    refine (hbe _ (below_three _ _ _ _)).mono ?_
    rintro e w2 ⟨rfl, b2⟩
    go_wp2
    go_ret
    exact ⟨rfl, b1.trans (((below_three w1 _ _ _).trans (b2.mono (by simp; omega))).mono b1.size)⟩
end Go.Proofs.Ybulkcusg
