/- cmp.Compare at int, and the closure of the sort: build$1. -/
import Derived.Test.YbulkcusgBoxes
import Derived.Test.YbulkcusgSortShelf
namespace Go.Proofs.Ybulkcusg
open Go.RowKit Go.Sort Go.Lib
set_option linter.unusedVariables false

/-- A readBox: the box, and the read's place. -/
abbrev RB := LB × Int
/-- Its five cells. -/
def rbList (x : RB) : List Value := [.int .i64 x.1.1, .int .i64 x.1.2.1, .int .i64 x.1.2.2.1, .int .i64 x.1.2.2.2, .int .i64 x.2]

def cmpI (a b : Int) : Int := if a < b then -1 else if b < a then 1 else 0

set_option maxHeartbeats 400000 in
theorem nan_any (a : Int) (w : World) : Calls Yba.prog 23 #[.int .i64 a] w fun e w' => e = .returned (.bool false) ∧ w' = w := by
  go_enter Yba.func23, Yba.ntmps23
  go_wp2
  go_ret
  exact ⟨rb (by simp), rfl⟩

set_option maxHeartbeats 400000 in
theorem cmp_any (a b : Int) (w : World) : Calls Yba.prog 19 #[.int .i64 a, .int .i64 b] w fun e w' => e = .returned (.int .i64 (cmpI a b)) ∧ w' = w := by
  unfold cmpI
  by_cases h1 : a < b
  · rw [if_pos h1]
    go_enter Yba.func19, Yba.ntmps19
    go_wp2_with (go_at_call 23; refine (nan_any _ _).mono ?_; rintro e w' ⟨rfl, rfl⟩)
    go_ret
    exact ⟨rfl, rfl⟩
  · rw [if_neg h1]
    by_cases h2 : b < a
    · rw [if_pos h2]
      go_enter Yba.func19, Yba.ntmps19
      go_wp2_with (go_at_call 23; refine (nan_any _ _).mono ?_; rintro e w' ⟨rfl, rfl⟩)
      go_ret
      exact ⟨rfl, rfl⟩
    · rw [if_neg h2]
      go_enter Yba.func19, Yba.ntmps19
      go_wp2_with (go_at_call 23; refine (nan_any _ _).mono ?_; rintro e w' ⟨rfl, rfl⟩)
      go_ret
      exact ⟨rfl, rfl⟩

/-- The component by which the sort goes. -/
def key (bv : Nat) (x : RB) : Int := if bv = 0 then x.1.1 else x.1.2.1

theorem drewN_two (W : World) (A B : Obj) (n : Nat) : ((W.alloc A).alloc B).drewN n = grow (W.drewN n) (#[A] ++ #[B]) := by
  rw [alloc_eq_grow, alloc_eq_grow, grow_grow]
  rfl

set_option maxHeartbeats 1000000 in
theorem closure_any (x y : RB) (bv bb : Nat) (hb : bv ≤ 1) (W : World) (hc : W.cell? ⟨bb, 0, none⟩ = some (.int .i64 bv)) :
    Calls Yba.prog 18 #[.agg (rbList x).toArray, .agg (rbList y).toArray, .pointer (some ⟨bb, 0, none⟩)] W fun e w' =>
      e = .returned (.int .i64 (cmpI (key bv x) (key bv y))) ∧ ∃ q os, w' = grow (W.drewN q) os := by
  obtain ⟨⟨x0, x1, x2, x3⟩, x4⟩ := x
  obtain ⟨⟨y0, y1, y2, y3⟩, y4⟩ := y
  have hbl : bb < W.heap.size := World.block_lt_of_cell? W _ hc
  have hcon := fun W' => cmp_any (key bv ((x0, x1, x2, x3), x4)) (key bv ((y0, y1, y2, y3), y4)) W'
  rcases (show bv = 0 ∨ bv = 1 by omega) with rfl | rfl
  all_goals
    simp only [rbList, key] at hcon ⊢
    generalize cmpI _ _ = r at hcon ⊢
    go_enter Yba.func18, Yba.ntmps18
    go_wp2
    go_quiet ((go_at_call 19; exact Calls.quiet_of_same (hcon _)))
    go_wp2
    go_ret
    exact ⟨rfl, _, _, drewN_two _ _ _ _⟩

theorem cmpI_lt (a b : Int) : decide (cmpI a b < 0) = decide (a < b) := by
  unfold cmpI
  by_cases h1 : a < b
  · simp [h1]
  · by_cases h2 : b < a <;> simp [h1, h2]

theorem swo_key (bv : Nat) : SWO (ltOf fun x y : RB => cmpI (key bv x) (key bv y)) where
  irrefl x := by simp only [ltOf, cmpI_lt]; simp
  trans x y z h1 h2 := by simp only [ltOf, cmpI_lt] at *; simp at *; omega
  ntrans x y z h1 h2 := by simp only [ltOf, cmpI_lt] at *; simp at *; omega

/-- slices.SortFunc over a row of readBoxes: a permutation of it. -/
theorem sort_any (bv bb : Nat) (hb : bv ≤ 1) (blk off cap : Nat) (d : Array RB) (w : World) (hc : w.cell? ⟨bb, 0, none⟩ = some (.int .i64 bv)) (hne : bb ≠ blk)
    (hH : HoldsK rbList 5 w blk off d) (hblk : blk < w.heap.size) (hsz : d.size ≤ 1024) :
    Calls Yba.prog 17 #[.slice (some ⟨blk, off, none⟩) d.size cap, .func (.func 18) #[] #[.pointer (some ⟨bb, 0, none⟩)]] w fun e w' =>
      e = .returned (.tuple #[]) ∧ ∃ d' n os, PermIn 0 d.size d d' ∧ w' = sortWorldK rbList 5 w blk off n d' os := by
  have eg : ∀ args w, (callFunc 18 args).run Yba.prog w = .ok (.enter 18 args) w := enters_of Yba.func18 (by kernel_rfl) rfl
  have hbl : bb < w.heap.size := World.block_lt_of_cell? w _ hc
  have hlays : CmpLays Yba.prog 18 #[.pointer (some ⟨bb, 0, none⟩)] rbList 5 (fun x y => cmpI (key bv x) (key bv y)) blk off d.size w := by
    intro m os dk _ x y
    refine closure_any x y bv bb hb _ ?_
    unfold sortWorldK
    rw [cell?_grow _ _ _ (by rw [size_putRowK]; exact hbl), cell?_putRowK_other _ _ _ _ _ _ _ hne]
    exact hc
  have hcon := AnyQ.slices_SortFunc Yba.sortRB 5 Yba.isAgg55 Yba.sizeOf55 rbList (fun _ => rfl) (fun x v hv => by simp [rbList] at hv; rcases hv with rfl | rfl | rfl | rfl | rfl <;> rfl)
    (fun x y => cmpI (key bv x) (key bv y)) (swo_key bv) 18 #[.pointer (some ⟨bb, 0, none⟩)] blk off cap d w eg hlays hH hblk (by omega)
  exact hcon.mono fun e w' ⟨he, d', n, os, hp, _, hw⟩ => ⟨he, d', n, os, hp, hw⟩
end Go.Proofs.Ybulkcusg
