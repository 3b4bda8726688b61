/- earliestReads.build. -/
import Derived.Test.YbulkcusgJoinR
import Derived.Test.YbulkcusgBefore
namespace Go.Proofs.Ybulkcusg
open Go.RowKit Go.Sort
set_option linter.unusedVariables false

/-- What 'build' leaves. -/
def Built (R S n m lo hi : Nat) (d s : Nat → RB) (w w' : World) : Prop :=
  ∃ d' s', RowF w' R n d' ∧ RowF w' S n s' ∧ Moves lo hi d d' ∧ (∀ j, j < lo ∨ hi ≤ j → s' j = s j) ∧ Tree d' s' m lo hi ∧ Sep R S w w'

/-- The sort of the readers from lo to hi. -/
theorem sort_row (R S n bv bb : Nat) (hb : bv ≤ 1) (lo k cap : Nat) (d s : Nat → RB) (w : World) (hc : w.cell? ⟨bb, 0, none⟩ = some (.int .i64 bv)) (hne : bb ≠ R) (hRS : R ≠ S) (hk : lo + k ≤ n) (hn : n ≤ 1024) (hR : RowF w R n d) (hS : RowF w S n s) :
    Calls Yba.prog 17 #[.slice (some ⟨R, lo * 5, none⟩) k cap, .func (.func 18) #[] #[.pointer (some ⟨bb, 0, none⟩)]] w fun e w' =>
      e = .returned (.tuple #[]) ∧ ∃ d', RowF w' R n d' ∧ RowF w' S n s ∧ Moves lo (lo + k) d d' ∧ Sep R S w w' := by
  have h := sort_any bv bb hb R (lo * 5) cap (arr d lo k) w hc hne (hR.holds lo k hk) hR.lt (by rw [size_arr]; omega)
  rw [size_arr] at h
  refine h.mono fun e w' ⟨he, d', q, os, hp, hw⟩ => ⟨he, _, ?_, ?_, moves_sorted d lo k d' hp, ?_⟩
  · rw [hw]; exact hR.sorted lo k hk q d' os (by have := hp.1; simpa using this)
  · rw [hw]
    have hs := Sep.sorted (R := R) (S := R) w (lo * 5) q d' os
    exact hS.of_block (hs.block S hS.lt (Ne.symm hRS) (Ne.symm hRS))
  · rw [hw]; exact Sep.sorted w _ q d' os

/-- The receiver's box and that of 'by'. -/
def BoxB (W : World) (H R S n bv : Nat) : Prop :=
  W.cell? ⟨H, 0, none⟩ = some (.slice (some ⟨R, 0, none⟩) n n) ∧ W.cell? ⟨H, 1, none⟩ = some (.slice (some ⟨S, 0, none⟩) n n) ∧ W.cell? ⟨H + 1, 0, none⟩ = some (.int .i64 bv)

theorem cell_sep {R S : Nat} {W W' : World} {a : Addr} {v : Value} (h : W.cell? a = some v) (hb : Sep R S W W') (h1 : a.block ≠ R) (h2 : a.block ≠ S) : W'.cell? a = some v :=
  (hb.cell (World.block_lt_of_cell? W a h) h1 h2).trans h

theorem BoxB.sep {W W' : World} {H R S n bv : Nat} (h : BoxB W H R S n bv) (hb : Sep R S W W') (hR : R < H) (hS : S < H) : BoxB W' H R S n bv := by
  obtain ⟨h1, h2, h3⟩ := h
  exact ⟨cell_sep h1 hb (show H ≠ R by omega) (show H ≠ S by omega), cell_sep h2 hb (show H ≠ R by omega) (show H ≠ S by omega), cell_sep h3 hb (show H + 1 ≠ R by omega) (show H + 1 ≠ S by omega)⟩

theorem boxB_new (w : World) (R S n bv : Nat) (t t' : TypeId) : BoxB ((w.alloc (.cells #[.slice (some ⟨R, 0, none⟩) n n, .slice (some ⟨S, 0, none⟩) n n] t)).alloc (.cells #[.int .i64 bv] t')) w.heap.size R S n bv := by
  have h1 : ((w.alloc (.cells #[.slice (some ⟨R, 0, none⟩) n n, .slice (some ⟨S, 0, none⟩) n n] t)).alloc (.cells #[.int .i64 bv] t')).heap[w.heap.size]? = some (.cells #[.slice (some ⟨R, 0, none⟩) n n, .slice (some ⟨S, 0, none⟩) n n] t) := by
    rw [Below.heap_alloc _ _ _ (by simp)]; exact heap_alloc_new w _
  have h2 : ((w.alloc (.cells #[.slice (some ⟨R, 0, none⟩) n n, .slice (some ⟨S, 0, none⟩) n n] t)).alloc (.cells #[.int .i64 bv] t')).heap[w.heap.size + 1]? = some (.cells #[.int .i64 bv] t') := by
    have := heap_alloc_new (w.alloc (.cells #[.slice (some ⟨R, 0, none⟩) n n, .slice (some ⟨S, 0, none⟩) n n] t)) (.cells #[.int .i64 bv] t')
    rwa [World.size_alloc] at this
  exact ⟨cell_of_row _ _ 0 _ _ _ h1, cell_of_row _ _ 1 _ _ _ h1, cell_of_row _ _ 0 _ _ _ h2⟩

theorem RowF.sep_other {w w' : World} {R S b n : Nat} {d : Nat → RB} (h : RowF w b n d) (hb : Sep R S w w') (h1 : b ≠ R) (h2 : b ≠ S) : RowF w' b n d := h.of_block (hb.block b h.lt h1 h2)

/-- Element j's cells in every world of the class, and that they may be written. -/
theorem RowF.ext {w : World} {b n : Nat} {d : Nat → RB} (h : RowF w b n d) (p : Ext) : RowF (ext w p) b n d := h.below (below_ext w p)

theorem idx0 (a b c e : Int) (w : World) : (Instr.index 61 (.agg #[.int .i64 a, .int .i64 b, .int .i64 c, .int .i64 e]) (.int .i64 0)).run Yba.prog w = .ok (.agg #[.int .i64 a, .int .i64 b]) w := by kernel_rfl
theorem idx1 (a b c e : Int) (w : World) : (Instr.index 61 (.agg #[.int .i64 a, .int .i64 b, .int .i64 c, .int .i64 e]) (.int .i64 1)).run Yba.prog w = .ok (.agg #[.int .i64 c, .int .i64 e]) w := by kernel_rfl

set_option maxHeartbeats 4000000 in
theorem build_step (R S n : Nat) (hn' : n ≤ 1024) (hRS : R ≠ S) (m lo hi bv root : Nat) (w : World) (d s : Nat → RB) (hm : hi - lo ≤ m + 1) (hlt : lo < hi) (hn : hi ≤ n) (hbv : bv ≤ 1) (hroot : root = (lo + hi) / 2) (hR : RowF w R n d) (hS : RowF w S n s)
    (ih : ∀ (lo hi bv : Nat) (w : World) (d s : Nat → RB), hi - lo ≤ m → lo < hi → hi ≤ n → bv ≤ 1 → RowF w R n d → RowF w S n s →
      Calls Yba.prog 16 #[recv R S n, .int .i64 lo, .int .i64 hi, .int .i64 bv] w fun e w' => e = .returned (.tuple #[]) ∧ Built R S n m lo hi d s w w') :
    Calls Yba.prog 16 #[recv R S n, .int .i64 lo, .int .i64 hi, .int .i64 bv] w fun e w' => e = .returned (.tuple #[]) ∧ Built R S n (m + 1) lo hi d s w w' := by
  have IH : Hid _ := ih
  clear ih
  have hRl := hR.lt
  have hSl := hS.lt
  have p1 : (0 : Int) ≤ (lo : Int) := by omega
  have p2 : (lo : Int) ≤ (hi : Int) := by omega
  have p3 : (hi : Int) ≤ (n : Int) := by omega
  have p4 : ¬ n = lo := by omega
  go_enter Yba.func16, Yba.ntmps16
  go_wp2_with fail
  have b0 : Below w.heap.size w ((w.alloc (.cells #[.slice (some ⟨R, 0, none⟩) n n, .slice (some ⟨S, 0, none⟩) n n] 29)).alloc (.cells #[.int .i64 bv] 3)) := ((Below.refl _ _).alloc (Nat.le_refl _) _).alloc (by simp) _
  have X0 := boxB_new w R S n bv 29 3
  refine (sort_row R S n bv (w.heap.size + 1) hbv lo (hi - lo) (n - lo) d s _ X0.2.2 (by omega) hRS (by omega) hn' (hR.below b0) (hS.below b0)).mono ?_
  rintro e w1 ⟨rfl, d1, hR1, hS1, hmv, sep1⟩
  have X1 := X0.sep sep1 hRl hSl
  rw [show lo + (hi - lo) = hi by omega] at hmv
  have S1 : Sep R S w w1 := (Sep.below b0).trans sep1
  clear X0 sep1 b0 hR hS
  have hq : ((lo : Int) + (hi : Int)) / 2 = (root : Int) := by omega
  have q1 : (root : Int) < (n : Int) := by omega
  have q2 : (0 : Int) ≤ (root : Int) := by omega
  have q3 : (lo : Int) + (hi : Int) ≤ 2048 := by omega
  have q4 : (root : Int) ≤ 1024 := by omega
  have hr1 : lo ≤ root := by omega
  have hr2 : root < hi := by omega
  have HRT : Hid (root = (lo + hi) / 2) := hroot
  clear hroot
  obtain ⟨x1, x2, x3⟩ := X1
  -- spans[root] = readers[root]
  have e1 := cell_ext x1
  have e2 := cell_ext x2
  obtain ⟨vv, hvv⟩ : ∃ v, v = d1 root := ⟨_, rfl⟩
  have cR := fun p => (hR1.ext p).cells (j := root) (by omega)
  rw [← hvv] at cR
  obtain ⟨⟨v0, v1, v2, v3⟩, v4⟩ := vv
  have cR0 := fun p => (cR p).1
  have cR1 := fun p => (cR p).2.1
  have cR2 := fun p => (cR p).2.2.1
  have cR3 := fun p => (cR p).2.2.2.1
  have cR4 := fun p => (cR p).2.2.2.2
  have cS := fun p => (hS1.ext p).cells (j := root) (by omega)
  obtain ⟨ss, hss⟩ : ∃ v, v = s root := ⟨_, rfl⟩
  rw [← hss] at cS
  obtain ⟨⟨s0, s1, s2, s3⟩, s4⟩ := ss
  have cS0 := fun p => (cS p).1
  have cS1 := fun p => (cS p).2.1
  have cS2 := fun p => (cS p).2.2.1
  have cS3 := fun p => (cS p).2.2.2.1
  have cS4 := fun p => (cS p).2.2.2.2
  have fS0 := fun p => (hS1.ext p).frozen (root * 5)
  have fS1 := fun p => (hS1.ext p).frozen (root * 5 + 1)
  have fS2 := fun p => (hS1.ext p).frozen (root * 5 + 2)
  have fS3 := fun p => (hS1.ext p).frozen (root * 5 + 3)
  have fS4 := fun p => (hS1.ext p).frozen (root * 5 + 4)
  simp only at cR0 cR1 cR2 cR3 cR4 cS0 cS1 cS2 cS3 cS4
  have HV : Hid (((v0, v1, v2, v3), v4) = d1 root) := hvv
  clear cR cS hvv hss
  go_wp2_with fail
  refine wp_region_ext_tail 9 (by kernel_rfl) (by kernel_rfl) ?_
  simp only [List.take_succ_cons, List.take_zero, List.drop_succ_cons, List.drop_zero]
  repeat (quiet_step (fail))
  refine wpQuiet_nil ?_
  rintro _ ⟨p, rfl⟩
  go_wp2_with fail
  have HX1 : Hid (BoxB w1 w.heap.size R S n bv) := ⟨x1, x2, x3⟩
  clear e1 e2 cR0 cR1 cR2 cR3 cR4 cS0 cS1 cS2 cS3 cS4 fS0 fS1 fS2 fS3 fS4 x1 x2 x3
  go_loopw [39] (fun i wr => ∃ (k : Nat) (d' s' : Nat → RB), k ≤ 2 ∧ i = .int .i64 k ∧ RowF wr R n d' ∧ RowF wr S n s' ∧ Moves lo hi d d' ∧ (∀ j, j < lo ∨ hi ≤ j → s' j = s j) ∧ BInv m lo hi root k d' s' ∧ Sep R S w wr ∧ BoxB wr w.heap.size R S n bv) (fun i _ => 2 - (intOf i).toNat)
  case atStart =>
    have t1 := (hS1.ext p).store (r := root) (by omega) ((v0, v1, v2, v3), v4)
    have t2 := Sep.five (R := S) (S := S) (b := S) (.inl rfl) (Sep.refl S S (ext w1 p)) (root * 5) (root * 5 + 1) (root * 5 + 2) (root * 5 + 3) (root * 5 + 4) (.int .i64 v0) (.int .i64 v1) (.int .i64 v2) (.int .i64 v3) (.int .i64 v4)
    have t3 := Sep.five (R := R) (S := S) (b := S) (.inr rfl) ((Sep.refl R S w1).trans (Sep.below (below_ext w1 p))) (root * 5) (root * 5 + 1) (root * 5 + 2) (root * 5 + 3) (root * 5 + 4) (.int .i64 v0) (.int .i64 v1) (.int .i64 v2) (.int .i64 v3) (.int .i64 v4)
    refine ⟨0, d1, upd s root ((v0, v1, v2, v3), v4), by omega, rfl, (hR1.ext p).sep_other t2 hRS hRS, t1, hmv, fun j hj => upd_other _ _ (by omega), ⟨?_, fun h => by omega, fun h => by omega⟩, S1.trans t3, HX1.out.sep t3 hRl hSl⟩
    rw [upd_same, ← HV.out]
    exact cov_refl _
  case round =>
    obtain ⟨k, d2, s2, hk, rfl, hR2, hS2, hm2, hs2, hinv, sep2, hX2⟩ := hrel
    rcases (show k = 0 ∨ k = 1 ∨ k = 2 by omega) with rfl | rfl | rfl
    · have hix := idx0 lo root ((root : Int) + 1) hi
      have ba : ∀ o, Sep R S wr (wr.alloc o) := fun o => (Sep.refl R S wr).alloc o
      have XA := fun o => hX2.sep (ba o) hRl hSl
      have y1 := fun o => (XA o).1
      have y2 := fun o => (XA o).2.1
      have y3 := fun o => (XA o).2.2
      by_cases hl : lo < root
      · have hl' : (lo : Int) < (root : Int) := by omega
        have hI := fun (o : Obj) => IH.out (lo) (root) (1 - bv) (wr.alloc o) d2 s2 (by omega) hl (by omega) (by omega) (hR2.below ((Below.refl _ _).alloc (Nat.le_refl _) o)) (hS2.below ((Below.refl _ _).alloc (Nat.le_refl _) o))
        rw [show ((1 - bv : Nat) : Int) = 1 - (bv : Int) by omega] at hI
        skip
        go_wp2_with fail
        refine (hI _).mono ?_
        rintro e w3 ⟨rfl, d3, s3, hR3, hS3, hm3, hs3, ht3, sep3⟩
        have hsz : wr.heap.size < (wr.alloc (.cells #[.int .i64 ((lo : Int)), .int .i64 ((root : Int))] 34)).heap.size := by simp
        have hhp := heap_alloc_new wr (.cells #[.int .i64 ((lo : Int)), .int .i64 ((root : Int))] 34)
        have hRw := hR2.lt
        have hSw := hS2.lt
        have k0 := cell_sep (cell_of_row _ _ 0 _ _ _ hhp) sep3 (show wr.heap.size ≠ R by omega) (show wr.heap.size ≠ S by omega)
        have k1 := cell_sep (cell_of_row _ _ 1 _ _ _ hhp) sep3 (show wr.heap.size ≠ R by omega) (show wr.heap.size ≠ S by omega)
        have X3 := (XA _).sep sep3 hRl hSl
        have sep23 := (ba _).trans sep3
        clear hI hsz hhp
        have e2 := cell_ext X3.2.1
        have e3 := cell_ext k0
        have e4 := cell_ext k1
        obtain ⟨mid, hmid⟩ : ∃ mid, mid = (lo + root) / 2 := ⟨_, rfl⟩
        have hqm : ((lo : Int) + (root : Int)) / 2 = (mid : Int) := by omega
        have m1 : (mid : Int) < (n : Int) := by omega
        have m2 : (0 : Int) ≤ (mid : Int) := by omega
        have m3 : (lo : Int) + (root : Int) ≤ 2049 := by omega
        have w1' : IntKind.i64.wrap ((lo : Int) + (root : Int)) = (lo : Int) + (root : Int) := Go.IntWalk.i64_in _ (by omega)
        have w2' : ((lo : Int) + (root : Int)).tdiv 2 = (mid : Int) := by rw [Int.tdiv_eq_ediv_of_nonneg (by omega)]; omega
        have w3' : IntKind.i64.wrap (mid : Int) = (mid : Int) := Go.IntWalk.i64_in _ (by omega)
        have hjr := fun W => joinR_any (s3 root) (s3 mid) W
        have cA := fun p => (hS3.ext p).cells (j := root) (by omega)
        have cB := fun p => (hS3.ext p).cells (j := mid) (by omega)
        have HM : Hid (mid = (lo + root) / 2) := hmid
        clear hmid
        obtain ⟨aa, haa⟩ : ∃ v, v = s3 root := ⟨_, rfl⟩
        obtain ⟨bb, hbb⟩ : ∃ v, v = s3 mid := ⟨_, rfl⟩
        rw [← haa] at cA
        rw [← hbb] at cB
        rw [← haa, ← hbb] at hjr
        have HA : Hid (aa = s3 root) := haa
        have HB : Hid (bb = s3 mid) := hbb
        clear haa hbb
        have hJ : ∃ J, J = joinR aa bb := ⟨_, rfl⟩
        obtain ⟨J, hJ⟩ := hJ
        rw [← hJ] at hjr
        have HJ : Hid (J = joinR aa bb) := hJ
        clear hJ
        obtain ⟨⟨a0, a1, a2, a3⟩, a4⟩ := aa
        obtain ⟨⟨b0, b1, b2, b3⟩, b4⟩ := bb
        obtain ⟨⟨j0, j1, j2, j3⟩, j4⟩ := J
        simp only [rbList] at hjr
        have cA0 := fun p => (cA p).1
        have cA1 := fun p => (cA p).2.1
        have cA2 := fun p => (cA p).2.2.1
        have cA3 := fun p => (cA p).2.2.2.1
        have cA4 := fun p => (cA p).2.2.2.2
        have cB0 := fun p => (cB p).1
        have cB1 := fun p => (cB p).2.1
        have cB2 := fun p => (cB p).2.2.1
        have cB3 := fun p => (cB p).2.2.2.1
        have cB4 := fun p => (cB p).2.2.2.2
        simp only at cA0 cA1 cA2 cA3 cA4 cB0 cB1 cB2 cB3 cB4
        have fS0 := fun p => (hS3.ext p).frozen (root * 5)
        have fS1 := fun p => (hS3.ext p).frozen (root * 5 + 1)
        have fS2 := fun p => (hS3.ext p).frozen (root * 5 + 2)
        have fS3 := fun p => (hS3.ext p).frozen (root * 5 + 3)
        have fS4 := fun p => (hS3.ext p).frozen (root * 5 + 4)
        clear cA cB
        go_wp2_with fail
        refine wp_region_ext_tail 20 (by kernel_rfl) (by kernel_rfl) ?_
        simp only [List.take_succ_cons, List.take_zero, List.drop_succ_cons, List.drop_zero]
        repeat (quiet_step ((go_at_call 20; exact calls_ext (hjr _))))
        refine wpQuiet_nil ?_
        rintro _ ⟨p, rfl⟩
        go_wp2
        go_roundw
        case rel =>
          have eJ : ((j0, j1, j2, j3), j4) = joinR (s3 root) (s3 ((lo + root) / 2)) := by rw [HJ.out, HA.out, HB.out, HM.out]
          have t1 := (hS3.ext p).store (r := root) (by omega) ((j0, j1, j2, j3), j4)
          have t2 := Sep.five (R := S) (S := S) (b := S) (.inl rfl) (Sep.refl S S (ext w3 p)) (root * 5) (root * 5 + 1) (root * 5 + 2) (root * 5 + 3) (root * 5 + 4) (.int .i64 j0) (.int .i64 j1) (.int .i64 j2) (.int .i64 j3) (.int .i64 j4)
          have t3 := Sep.five (R := R) (S := S) (b := S) (.inr rfl) ((Sep.refl R S w3).trans (Sep.below (below_ext w3 p))) (root * 5) (root * 5 + 1) (root * 5 + 2) (root * 5 + 3) (root * 5 + 4) (.int .i64 j0) (.int .i64 j1) (.int .i64 j2) (.int .i64 j3) (.int .i64 j4)
          have hB := binv_left hinv hl hm3 hs3 ht3
          rw [← eJ] at hB
          exact ⟨1, d3, upd s3 root ((j0, j1, j2, j3), j4), by omega, by go_num, (hR3.ext p).sep_other t2 hRS hRS, t1, moves_trans hm2 (moves_mono hm3 (Nat.le_refl _) (by omega)), fun j hj => by rw [upd_other _ _ (by omega), hs3 j (by omega)]; exact hs2 j hj, hB, sep2.trans (sep23.trans t3), X3.sep t3 hRl hSl⟩
        case measure => simp [intOf]
      · have hl' : ¬ (lo : Int) < (root : Int) := by omega
        go_wp2
        go_roundw
        case rel => exact ⟨1, d2, s2, by omega, by go_num, hR2.below ((Below.refl _ _).alloc (Nat.le_refl _) _), hS2.below ((Below.refl _ _).alloc (Nat.le_refl _) _), hm2, hs2, binv_left_none hinv hl, sep2.trans (ba _), XA _⟩
        case measure => simp [intOf]
    · have hix := idx1 lo root ((root : Int) + 1) hi
      have ba : ∀ o, Sep R S wr (wr.alloc o) := fun o => (Sep.refl R S wr).alloc o
      have XA := fun o => hX2.sep (ba o) hRl hSl
      have y1 := fun o => (XA o).1
      have y2 := fun o => (XA o).2.1
      have y3 := fun o => (XA o).2.2
      by_cases hl : root + 1 < hi
      · have hl' : (root : Int) + 1 < (hi : Int) := by omega
        have hI := fun (o : Obj) => IH.out (root + 1) (hi) (1 - bv) (wr.alloc o) d2 s2 (by omega) hl (by omega) (by omega) (hR2.below ((Below.refl _ _).alloc (Nat.le_refl _) o)) (hS2.below ((Below.refl _ _).alloc (Nat.le_refl _) o))
        rw [show ((1 - bv : Nat) : Int) = 1 - (bv : Int) by omega] at hI
        rw [show ((root + 1 : Nat) : Int) = (root : Int) + 1 by omega] at hI
        go_wp2_with fail
        refine (hI _).mono ?_
        rintro e w3 ⟨rfl, d3, s3, hR3, hS3, hm3, hs3, ht3, sep3⟩
        have hsz : wr.heap.size < (wr.alloc (.cells #[.int .i64 ((root : Int) + 1), .int .i64 ((hi : Int))] 34)).heap.size := by simp
        have hhp := heap_alloc_new wr (.cells #[.int .i64 ((root : Int) + 1), .int .i64 ((hi : Int))] 34)
        have hRw := hR2.lt
        have hSw := hS2.lt
        have k0 := cell_sep (cell_of_row _ _ 0 _ _ _ hhp) sep3 (show wr.heap.size ≠ R by omega) (show wr.heap.size ≠ S by omega)
        have k1 := cell_sep (cell_of_row _ _ 1 _ _ _ hhp) sep3 (show wr.heap.size ≠ R by omega) (show wr.heap.size ≠ S by omega)
        have X3 := (XA _).sep sep3 hRl hSl
        have sep23 := (ba _).trans sep3
        clear hI hsz hhp
        have e2 := cell_ext X3.2.1
        have e3 := cell_ext k0
        have e4 := cell_ext k1
        obtain ⟨mid, hmid⟩ : ∃ mid, mid = ((root + 1) + hi) / 2 := ⟨_, rfl⟩
        have hqm : (((root : Int) + 1) + (hi : Int)) / 2 = (mid : Int) := by omega
        have m1 : (mid : Int) < (n : Int) := by omega
        have m2 : (0 : Int) ≤ (mid : Int) := by omega
        have m3 : ((root : Int) + 1) + (hi : Int) ≤ 2049 := by omega
        have w1' : IntKind.i64.wrap ((root : Int) + 1 + (hi : Int)) = (root : Int) + 1 + (hi : Int) := Go.IntWalk.i64_in _ (by omega)
        have w2' : ((root : Int) + 1 + (hi : Int)).tdiv 2 = (mid : Int) := by rw [Int.tdiv_eq_ediv_of_nonneg (by omega)]; omega
        have w3' : IntKind.i64.wrap (mid : Int) = (mid : Int) := Go.IntWalk.i64_in _ (by omega)
        have hjr := fun W => joinR_any (s3 root) (s3 mid) W
        have cA := fun p => (hS3.ext p).cells (j := root) (by omega)
        have cB := fun p => (hS3.ext p).cells (j := mid) (by omega)
        have HM : Hid (mid = ((root + 1) + hi) / 2) := hmid
        clear hmid
        obtain ⟨aa, haa⟩ : ∃ v, v = s3 root := ⟨_, rfl⟩
        obtain ⟨bb, hbb⟩ : ∃ v, v = s3 mid := ⟨_, rfl⟩
        rw [← haa] at cA
        rw [← hbb] at cB
        rw [← haa, ← hbb] at hjr
        have HA : Hid (aa = s3 root) := haa
        have HB : Hid (bb = s3 mid) := hbb
        clear haa hbb
        have hJ : ∃ J, J = joinR aa bb := ⟨_, rfl⟩
        obtain ⟨J, hJ⟩ := hJ
        rw [← hJ] at hjr
        have HJ : Hid (J = joinR aa bb) := hJ
        clear hJ
        obtain ⟨⟨a0, a1, a2, a3⟩, a4⟩ := aa
        obtain ⟨⟨b0, b1, b2, b3⟩, b4⟩ := bb
        obtain ⟨⟨j0, j1, j2, j3⟩, j4⟩ := J
        simp only [rbList] at hjr
        have cA0 := fun p => (cA p).1
        have cA1 := fun p => (cA p).2.1
        have cA2 := fun p => (cA p).2.2.1
        have cA3 := fun p => (cA p).2.2.2.1
        have cA4 := fun p => (cA p).2.2.2.2
        have cB0 := fun p => (cB p).1
        have cB1 := fun p => (cB p).2.1
        have cB2 := fun p => (cB p).2.2.1
        have cB3 := fun p => (cB p).2.2.2.1
        have cB4 := fun p => (cB p).2.2.2.2
        simp only at cA0 cA1 cA2 cA3 cA4 cB0 cB1 cB2 cB3 cB4
        have fS0 := fun p => (hS3.ext p).frozen (root * 5)
        have fS1 := fun p => (hS3.ext p).frozen (root * 5 + 1)
        have fS2 := fun p => (hS3.ext p).frozen (root * 5 + 2)
        have fS3 := fun p => (hS3.ext p).frozen (root * 5 + 3)
        have fS4 := fun p => (hS3.ext p).frozen (root * 5 + 4)
        clear cA cB
        go_wp2_with fail
        refine wp_region_ext_tail 20 (by kernel_rfl) (by kernel_rfl) ?_
        simp only [List.take_succ_cons, List.take_zero, List.drop_succ_cons, List.drop_zero]
        repeat (quiet_step ((go_at_call 20; exact calls_ext (hjr _))))
        refine wpQuiet_nil ?_
        rintro _ ⟨p, rfl⟩
        go_wp2
        go_roundw
        case rel =>
          have eJ : ((j0, j1, j2, j3), j4) = joinR (s3 root) (s3 ((root + 1 + hi) / 2)) := by rw [HJ.out, HA.out, HB.out, HM.out]
          have t1 := (hS3.ext p).store (r := root) (by omega) ((j0, j1, j2, j3), j4)
          have t2 := Sep.five (R := S) (S := S) (b := S) (.inl rfl) (Sep.refl S S (ext w3 p)) (root * 5) (root * 5 + 1) (root * 5 + 2) (root * 5 + 3) (root * 5 + 4) (.int .i64 j0) (.int .i64 j1) (.int .i64 j2) (.int .i64 j3) (.int .i64 j4)
          have t3 := Sep.five (R := R) (S := S) (b := S) (.inr rfl) ((Sep.refl R S w3).trans (Sep.below (below_ext w3 p))) (root * 5) (root * 5 + 1) (root * 5 + 2) (root * 5 + 3) (root * 5 + 4) (.int .i64 j0) (.int .i64 j1) (.int .i64 j2) (.int .i64 j3) (.int .i64 j4)
          have hB := binv_right hinv hl hm3 hs3 ht3
          rw [← eJ] at hB
          exact ⟨2, d3, upd s3 root ((j0, j1, j2, j3), j4), by omega, by go_num, (hR3.ext p).sep_other t2 hRS hRS, t1, moves_trans hm2 (moves_mono hm3 (by omega) (Nat.le_refl _)), fun j hj => by rw [upd_other _ _ (by omega), hs3 j (by omega)]; exact hs2 j hj, hB, sep2.trans (sep23.trans t3), X3.sep t3 hRl hSl⟩
        case measure => simp [intOf]
      · have hl' : ¬ (root : Int) + 1 < (hi : Int) := by omega
        go_wp2
        go_roundw
        case rel => exact ⟨2, d2, s2, by omega, by go_num, hR2.below ((Below.refl _ _).alloc (Nat.le_refl _) _), hS2.below ((Below.refl _ _).alloc (Nat.le_refl _) _), hm2, hs2, binv_right_none hinv hl, sep2.trans (ba _), XA _⟩
        case measure => simp [intOf]
    · go_wp2
      go_end0
      exact ⟨rfl, d2, s2, hR2, hS2, hm2, hs2, by rw [HRT.out] at hinv; exact binv_end hinv, sep2⟩

theorem build_any (R S n : Nat) (hn' : n ≤ 1024) (hRS : R ≠ S) : ∀ (m lo hi bv : Nat) (w : World) (d s : Nat → RB), hi - lo ≤ m → lo < hi → hi ≤ n → bv ≤ 1 → RowF w R n d → RowF w S n s →
    Calls Yba.prog 16 #[recv R S n, .int .i64 lo, .int .i64 hi, .int .i64 bv] w fun e w' => e = .returned (.tuple #[]) ∧ Built R S n m lo hi d s w w'
  | 0, lo, hi, _, _, _, _, hm, hlt, _, _, _, _ => by omega
  | m + 1, lo, hi, bv, w, d, s, hm, hlt, hn, hbv, hR, hS =>
    build_step R S n hn' hRS m lo hi bv ((lo + hi) / 2) w d s hm hlt hn hbv rfl hR hS (fun lo hi bv w d s => build_any R S n hn' hRS m lo hi bv w d s)
end Go.Proofs.Ybulkcusg
