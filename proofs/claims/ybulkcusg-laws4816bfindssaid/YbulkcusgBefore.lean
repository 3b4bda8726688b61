/- earliestReads.beforeIn. -/
import Derived.Test.YbulkcusgRowMem
namespace Go.Proofs.Ybulkcusg
open Go.RowKit
set_option linter.unusedVariables false

theorem bcell {W w1 : World} (hb : Below W.heap.size W w1) : (∀ b o, b < W.heap.size → w1.cell? ⟨b, o, none⟩ = W.cell? ⟨b, o, none⟩) ∧ (∀ b o, b < W.heap.size → w1.frozen? ⟨b, o, none⟩ = W.frozen? ⟨b, o, none⟩) :=
  ⟨fun b o h => hb.cell (p := ⟨b, o, none⟩) h, fun b o h => hb.frozen (p := ⟨b, o, none⟩) h⟩

theorem RowF.below {w w' : World} {b n : Nat} {d : Nat → RB} (h : RowF w b n d) (hb : Below w.heap.size w w') : RowF w' b n d := h.of_block (hb.block b h.lt)

/-- The receiver: the two rows. -/
abbrev recv (R S n : Nat) : Value := .agg #[.slice (some ⟨R, 0, none⟩) n n, .slice (some ⟨S, 0, none⟩) n n]

set_option maxHeartbeats 1000000 in
theorem before_none (R S n : Nat) (Q : LB) (at_ : Int) (lo hi : Nat) (w : World) (h : hi ≤ lo) (hlo : lo ≤ 2000) :
    Calls Yba.prog 7 #[recv R S n, .int .i64 lo, .int .i64 hi, .agg (lbCells Q), .int .i64 at_] w fun e w' => e = .returned (.bool false) ∧ Below w.heap.size w w' := by
  obtain ⟨q0, q1, q2, q3⟩ := Q
  simp only [lbCells]
  have hge : (hi : Int) ≤ (lo : Int) := by omega
  go_enter Yba.func7, Yba.ntmps7
  go_wp2
  go_ret
  exact ⟨rfl, ((Below.refl _ _).alloc (Nat.le_refl _) _).alloc (by simp) _⟩

/-- The receiver's box and the query's. -/
def Boxed (W : World) (H R S n : Nat) (Q : LB) : Prop :=
  W.cell? ⟨H, 0, none⟩ = some (.slice (some ⟨R, 0, none⟩) n n) ∧ W.cell? ⟨H, 1, none⟩ = some (.slice (some ⟨S, 0, none⟩) n n) ∧
  W.cell? ⟨H + 1, 0, none⟩ = some (.int .i64 Q.1) ∧ W.cell? ⟨H + 1, 1, none⟩ = some (.int .i64 Q.2.1) ∧ W.cell? ⟨H + 1, 2, none⟩ = some (.int .i64 Q.2.2.1) ∧ W.cell? ⟨H + 1, 3, none⟩ = some (.int .i64 Q.2.2.2)

theorem cell_kept {W W' : World} {a : Addr} {v : Value} (h : W.cell? a = some v) (hb : Below W.heap.size W W') : W'.cell? a = some v :=
  (hb.cell (World.block_lt_of_cell? W a h)).trans h

theorem Boxed.below {W W' : World} {H R S n : Nat} {Q : LB} (h : Boxed W H R S n Q) (hb : Below W.heap.size W W') : Boxed W' H R S n Q := by
  obtain ⟨h1, h2, h3, h4, h5, h6⟩ := h
  exact ⟨cell_kept h1 hb, cell_kept h2 hb, cell_kept h3 hb, cell_kept h4 hb, cell_kept h5 hb, cell_kept h6 hb⟩

theorem boxed_new (w : World) (R S n : Nat) (Q : LB) (t t' : TypeId) : Boxed ((w.alloc (.cells #[.slice (some ⟨R, 0, none⟩) n n, .slice (some ⟨S, 0, none⟩) n n] t)).alloc (.cells #[.int .i64 Q.1, .int .i64 Q.2.1, .int .i64 Q.2.2.1, .int .i64 Q.2.2.2] t')) w.heap.size R S n Q := by
  have h1 : ((w.alloc (.cells #[.slice (some ⟨R, 0, none⟩) n n, .slice (some ⟨S, 0, none⟩) n n] t)).alloc (.cells #[.int .i64 Q.1, .int .i64 Q.2.1, .int .i64 Q.2.2.1, .int .i64 Q.2.2.2] t')).heap[w.heap.size]? = some (.cells #[.slice (some ⟨R, 0, none⟩) n n, .slice (some ⟨S, 0, none⟩) n n] t) := by
    rw [Below.heap_alloc _ _ _ (by simp)]; exact heap_alloc_new w _
  have h2 : ((w.alloc (.cells #[.slice (some ⟨R, 0, none⟩) n n, .slice (some ⟨S, 0, none⟩) n n] t)).alloc (.cells #[.int .i64 Q.1, .int .i64 Q.2.1, .int .i64 Q.2.2.1, .int .i64 Q.2.2.2] t')).heap[w.heap.size + 1]? = some (.cells #[.int .i64 Q.1, .int .i64 Q.2.1, .int .i64 Q.2.2.1, .int .i64 Q.2.2.2] t') := by
    have := heap_alloc_new (w.alloc (.cells #[.slice (some ⟨R, 0, none⟩) n n, .slice (some ⟨S, 0, none⟩) n n] t)) (.cells #[.int .i64 Q.1, .int .i64 Q.2.1, .int .i64 Q.2.2.1, .int .i64 Q.2.2.2] t')
    rwa [World.size_alloc] at this
  exact ⟨cell_of_row _ _ 0 _ _ _ h1, cell_of_row _ _ 1 _ _ _ h1, cell_of_row _ _ 0 _ _ _ h2, cell_of_row _ _ 1 _ _ _ h2, cell_of_row _ _ 2 _ _ _ h2, cell_of_row _ _ 3 _ _ _ h2⟩

set_option maxHeartbeats 4000000 in
/-- One level of the recursion: X, Y: what the two halves answer. -/
theorem before_some (R S n : Nat) (Q : LB) (at_ : Int) (lo hi root : Nat) (w : World) (hlt : lo < hi) (hn : hi ≤ n) (hn' : n ≤ 1024) (hroot : root = (lo + hi) / 2) (sv dv : RB) (X Y : Bool)
    (hRl : R < w.heap.size) (hSl : S < w.heap.size)
    (cs0 : w.cell? ⟨S, root * 5, none⟩ = some (.int .i64 sv.1.1)) (cs1 : w.cell? ⟨S, root * 5 + 1, none⟩ = some (.int .i64 sv.1.2.1)) (cs2 : w.cell? ⟨S, root * 5 + 2, none⟩ = some (.int .i64 sv.1.2.2.1)) (cs3 : w.cell? ⟨S, root * 5 + 3, none⟩ = some (.int .i64 sv.1.2.2.2)) (cs4 : w.cell? ⟨S, root * 5 + 4, none⟩ = some (.int .i64 sv.2))
    (cd0 : w.cell? ⟨R, root * 5, none⟩ = some (.int .i64 dv.1.1)) (cd1 : w.cell? ⟨R, root * 5 + 1, none⟩ = some (.int .i64 dv.1.2.1)) (cd2 : w.cell? ⟨R, root * 5 + 2, none⟩ = some (.int .i64 dv.1.2.2.1)) (cd3 : w.cell? ⟨R, root * 5 + 3, none⟩ = some (.int .i64 dv.1.2.2.2)) (cd4 : w.cell? ⟨R, root * 5 + 4, none⟩ = some (.int .i64 dv.2))
    (hL : ∀ W, Below w.heap.size w W → Calls Yba.prog 7 #[recv R S n, .int .i64 lo, .int .i64 root, .agg (lbCells Q), .int .i64 at_] W fun e w' => e = .returned (.bool X) ∧ Below W.heap.size W w')
    (hRr : ∀ W, Below w.heap.size w W → Calls Yba.prog 7 #[recv R S n, .int .i64 ((root : Int) + 1), .int .i64 hi, .agg (lbCells Q), .int .i64 at_] W fun e w' => e = .returned (.bool Y) ∧ Below W.heap.size W w') :
    Calls Yba.prog 7 #[recv R S n, .int .i64 lo, .int .i64 hi, .agg (lbCells Q), .int .i64 at_] w fun e w' =>
      e = .returned (.bool (if at_ ≤ sv.2 then false else if meetsB Q sv.1 = false then false else if holdsB Q sv.1 = true then true else if dv.2 < at_ ∧ holdsB Q dv.1 = true then true else if X = true then true else Y)) ∧ Below w.heap.size w w' := by
  have hM := fun W => meets_any Q sv.1 W
  have hH := fun W => holds_any Q sv.1 W
  have hD := fun W => holds_any Q dv.1 W
  generalize meetsB Q sv.1 = mb at *
  generalize holdsB Q sv.1 = hb at *
  generalize holdsB Q dv.1 = db at *
  obtain ⟨q0, q1, q2, q3⟩ := Q
  obtain ⟨⟨s0, s1, s2, s3⟩, s4⟩ := sv
  obtain ⟨⟨d0, d1, d2, d3⟩, d4⟩ := dv
  simp only [lbCells] at *
  have hge : ¬ (hi : Int) ≤ (lo : Int) := by omega
  have hq : ((lo : Int) + (hi : Int)) / 2 = (root : Int) := by omega
  have hrn : (root : Int) < (n : Int) := by omega
  have hrn' : (root : Int) ≤ 1024 := by omega
  clear hroot
  by_cases h1 : at_ ≤ s4
  · rw [if_pos h1]
    go_enter Yba.func7, Yba.ntmps7
    go_wp2
    go_ret
    exact ⟨rfl, below_three _ _ _ _⟩
  rw [if_neg h1]
  have h1' : decide (at_ ≤ s4) = false := decide_eq_false h1
  cases mb
  · rw [if_pos rfl]
    go_enter Yba.func7, Yba.ntmps7
    go_wp2_with fail
    refine (hM _).mono ?_
    rintro e w1 ⟨rfl, b1⟩
    go_wp2
    go_ret
    exact ⟨rfl, (below_three _ _ _ _).trans (b1.mono (by simp; omega))⟩
  rw [if_neg (by simp)]
  go_enter Yba.func7, Yba.ntmps7
  go_wp2_with fail
  refine (hM _).mono ?_
  rintro e w1 ⟨rfl, b1⟩
  obtain ⟨k1, _⟩ := bcell b1
  have z1 := b1.size
  simp only [World.size_alloc] at k1 z1
  have B1 := (below_three w _ _ _).trans (b1.mono (by simp; omega))
  go_wp2_with fail
  refine (hH _).mono ?_
  rintro e w2 ⟨rfl, b2⟩
  have B2 := B1.trans (b2.mono B1.size)
  cases hb
  case true =>
    go_wp2
    go_ret
    exact ⟨rfl, B2⟩
  have X0 := boxed_new w R S n (q0, q1, q2, q3) 29 36
  have X2 := (X0.below ((Below.refl _ _).alloc (Nat.le_refl _) (.cells #[.int .i64 s0, .int .i64 s1, .int .i64 s2, .int .i64 s3, .int .i64 s4] 55))).below b1
  have X2 := X2.below b2
  obtain ⟨u1, u2, u3, u4, u5, u6⟩ := X2
  have c0 := (B2.cell (p := ⟨R, root * 5, none⟩) hRl).trans cd0
  have c1 := (B2.cell (p := ⟨R, root * 5 + 1, none⟩) hRl).trans cd1
  have c2 := (B2.cell (p := ⟨R, root * 5 + 2, none⟩) hRl).trans cd2
  have c3 := (B2.cell (p := ⟨R, root * 5 + 3, none⟩) hRl).trans cd3
  have c4 := (B2.cell (p := ⟨R, root * 5 + 4, none⟩) hRl).trans cd4
  clear k1 hM hH cd0 cd1 cd2 cd3 cd4 cs0 cs1 cs2 cs3 cs4
  have BA : ∀ o, Below w.heap.size w (w2.alloc o) := fun o => B2.alloc B2.size o
  have XA : ∀ o, Boxed (w2.alloc o) w.heap.size R S n (q0, q1, q2, q3) := fun o => Boxed.below ⟨u1, u2, u3, u4, u5, u6⟩ ((Below.refl _ _).alloc (Nat.le_refl _) o)
  have v1 := fun o => (XA o).1
  have v2 := fun o => (XA o).2.1
  have v3 := fun o => (XA o).2.2.1
  have v4 := fun o => (XA o).2.2.2.1
  have v5 := fun o => (XA o).2.2.2.2.1
  have v6 := fun o => (XA o).2.2.2.2.2
  simp only at v1 v2 v3 v4 v5 v6
  by_cases h4 : d4 < at_
  · cases db
    · go_wp2_with fail
      refine (hD _).mono ?_
      rintro e w3 ⟨rfl, b3⟩
      have B3 := (BA _).trans (b3.mono (BA _).size)
      have X3 := (XA _).below b3
      obtain ⟨x1, x2, x3, x4, x5, x6⟩ := X3
      go_wp2_with fail
      refine (hL _ B3).mono ?_
      rintro e w4 ⟨rfl, b4⟩
      have B4 := B3.trans (b4.mono B3.size)
      cases X
      · obtain ⟨y1, y2, y3, y4, y5, y6⟩ := Boxed.below (Q := (q0, q1, q2, q3)) ⟨x1, x2, x3, x4, x5, x6⟩ b4
        go_wp2_with fail
        refine (hRr _ B4).mono ?_
        rintro e w5 ⟨rfl, b5⟩
        have B5 := B4.trans (b5.mono B4.size)
        go_wp2
        go_ret
        exact ⟨rb (by simp), B5⟩
      · go_wp2
        go_ret
        exact ⟨rb (by simp), B4⟩
    · go_wp2_with fail
      refine (hD _).mono ?_
      rintro e w3 ⟨rfl, b3⟩
      have B3 := (BA _).trans (b3.mono (BA _).size)
      go_wp2
      go_ret
      exact ⟨rb (by simp), B3⟩
  · have h4' : decide (d4 < at_) = false := decide_eq_false h4
    go_wp2_with fail
    refine (hL _ (BA _)).mono ?_
    rintro e w4 ⟨rfl, b4⟩
    have B4 := (BA _).trans (b4.mono (BA _).size)
    cases X
    · obtain ⟨y1, y2, y3, y4, y5, y6⟩ := (XA _).below b4
      go_wp2_with fail
      refine (hRr _ B4).mono ?_
      rintro e w5 ⟨rfl, b5⟩
      have B5 := B4.trans (b5.mono B4.size)
      go_wp2
      go_ret
      exact ⟨rb (by simp), B5⟩
    · go_wp2
      go_ret
      exact ⟨rb (by simp), B4⟩

theorem before_any (R S n : Nat) (hn' : n ≤ 1024) (Q : LB) (at_ : Int) (d s : Nat → RB) : ∀ (m lo hi : Nat) (w : World), hi - lo ≤ m → lo ≤ n → hi ≤ n → RowF w R n d → RowF w S n s →
    Calls Yba.prog 7 #[recv R S n, .int .i64 lo, .int .i64 hi, .agg (lbCells Q), .int .i64 at_] w fun e w' => e = .returned (.bool (bi d s Q at_ m lo hi)) ∧ Below w.heap.size w w'
  | 0, lo, hi, w, hm, hl, hn, hR, hS => before_none R S n Q at_ lo hi w (by omega) (by omega)
  | m + 1, lo, hi, w, hm, hl, hn, hR, hS => by
    by_cases hlt : hi ≤ lo
    · have : bi d s Q at_ (m + 1) lo hi = false := by unfold bi; rw [if_pos hlt]
      rw [this]
      exact before_none R S n Q at_ lo hi w hlt (by omega)
    · obtain ⟨c0, c1, c2, c3, c4⟩ := hS.cells (j := (lo + hi) / 2) (by omega)
      obtain ⟨e0, e1, e2, e3, e4⟩ := hR.cells (j := (lo + hi) / 2) (by omega)
      have h := before_some R S n Q at_ lo hi ((lo + hi) / 2) w (by omega) hn hn' rfl (s ((lo + hi) / 2)) (d ((lo + hi) / 2)) (bi d s Q at_ m lo ((lo + hi) / 2)) (bi d s Q at_ m ((lo + hi) / 2 + 1) hi) hR.lt hS.lt
        c0 c1 c2 c3 c4 e0 e1 e2 e3 e4
        (fun W hW => before_any R S n hn' Q at_ d s m lo _ W (by omega) hl (by omega) (hR.below hW) (hS.below hW))
        (fun W hW => before_any R S n hn' Q at_ d s m ((lo + hi) / 2 + 1) hi W (by omega) (by omega) hn (hR.below hW) (hS.below hW))
      rw [bi, if_neg hlt]
      exact h
end Go.Proofs.Ybulkcusg
