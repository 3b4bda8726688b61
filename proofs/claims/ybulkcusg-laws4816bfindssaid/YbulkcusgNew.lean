/- newEarliestReads, and the closure that it calls. -/
import Derived.Test.YbulkcusgBuild
import Derived.Deep.DeepCutAuto
import Derived.RegionTactic
namespace Go.Proofs.Ybulkcusg
open Go.RowKit Go.Sort
set_option linter.unusedVariables false

/-- Block G holds the n boxes bx 0, .., bx (n - 1). -/
def BoxF (w : World) (G n : Nat) (bx : Nat → LB) : Prop :=
  ∃ cs : Array Value, w.heap[G]? = some (.cells cs 36 (0, 0)) ∧ cs.size = n * 4 ∧ ∀ j, j < n →
    cs[j * 4]? = some (.int .i64 (bx j).1) ∧ cs[j * 4 + 1]? = some (.int .i64 (bx j).2.1) ∧ cs[j * 4 + 2]? = some (.int .i64 (bx j).2.2.1) ∧ cs[j * 4 + 3]? = some (.int .i64 (bx j).2.2.2)
/-- Block T holds the n transactions: number j, its read at ats j. -/
def TxF (w : World) (T n : Nat) (ats : Nat → Int) : Prop :=
  ∃ cs : Array Value, w.heap[T]? = some (.cells cs 51 (0, 0)) ∧ cs.size = n * 2 ∧ ∀ j, j < n → cs[j * 2]? = some (.int .i64 j) ∧ cs[j * 2 + 1]? = some (.int .i64 (ats j))

theorem BoxF.lt {w : World} {G n : Nat} {bx : Nat → LB} (h : BoxF w G n bx) : G < w.heap.size := by
  obtain ⟨cs, hh, _⟩ := h; exact (Array.getElem?_eq_some_iff.1 hh).1
theorem TxF.lt {w : World} {T n : Nat} {ats : Nat → Int} (h : TxF w T n ats) : T < w.heap.size := by
  obtain ⟨cs, hh, _⟩ := h; exact (Array.getElem?_eq_some_iff.1 hh).1
theorem BoxF.of_block {w w' : World} {G n : Nat} {bx : Nat → LB} (h : BoxF w G n bx) (e : w'.heap[G]? = w.heap[G]?) : BoxF w' G n bx := by
  obtain ⟨cs, hh, r⟩ := h; exact ⟨cs, e.trans hh, r⟩
theorem TxF.of_block {w w' : World} {T n : Nat} {ats : Nat → Int} (h : TxF w T n ats) (e : w'.heap[T]? = w.heap[T]?) : TxF w' T n ats := by
  obtain ⟨cs, hh, r⟩ := h; exact ⟨cs, e.trans hh, r⟩
theorem BoxF.cells {w : World} {G n : Nat} {bx : Nat → LB} (h : BoxF w G n bx) {j : Nat} (hj : j < n) :
    w.cell? ⟨G, j * 4, none⟩ = some (.int .i64 (bx j).1) ∧ w.cell? ⟨G, j * 4 + 1, none⟩ = some (.int .i64 (bx j).2.1) ∧ w.cell? ⟨G, j * 4 + 2, none⟩ = some (.int .i64 (bx j).2.2.1) ∧ w.cell? ⟨G, j * 4 + 3, none⟩ = some (.int .i64 (bx j).2.2.2) := by
  obtain ⟨cs, hh, hs, r⟩ := h
  obtain ⟨r0, r1, r2, r3⟩ := r j hj
  refine ⟨?_, ?_, ?_, ?_⟩ <;> rw [cell_of_row w G _ cs 36 (0, 0) hh] <;> assumption
theorem TxF.cells {w : World} {T n : Nat} {ats : Nat → Int} (h : TxF w T n ats) {j : Nat} (hj : j < n) :
    w.cell? ⟨T, j * 2, none⟩ = some (.int .i64 j) ∧ w.cell? ⟨T, j * 2 + 1, none⟩ = some (.int .i64 (ats j)) := by
  obtain ⟨cs, hh, hs, r⟩ := h
  obtain ⟨r0, r1⟩ := r j hj
  refine ⟨?_, ?_⟩ <;> rw [cell_of_row w T _ cs 51 (0, 0) hh] <;> assumption

set_option maxHeartbeats 1000000 in
theorem of_any (BX G n v : Nat) (bx : Nat → LB) (w : World) (hn : n ≤ 1024) (hv : v < n) (hc : w.cell? ⟨BX, 0, none⟩ = some (.slice (some ⟨G, 0, none⟩) n n)) (hG : BoxF w G n bx) :
    Calls Yba.prog 12 #[.int .i64 v, .pointer (some ⟨BX, 0, none⟩)] w fun e w' => e = .returned (.agg (lbCells (bx v))) ∧ Below w.heap.size w w' := by
  obtain ⟨c0, c1, c2, c3⟩ := hG.cells hv
  have hGl := hG.lt
  have hBl := World.block_lt_of_cell? w _ hc
  obtain ⟨b, hb⟩ : ∃ b, b = bx v := ⟨_, rfl⟩
  rw [← hb] at c0 c1 c2 c3 ⊢
  clear hb hG
  obtain ⟨b0, b1, b2, b3⟩ := b
  simp only [lbCells] at *
  have hv' : (v : Int) < (n : Int) := by omega
  go_enter Yba.func12, Yba.ntmps12
  go_wp2
  exact bodyPost_ret (v := .agg #[.int .i64 b0, .int .i64 b1, .int .i64 b2, .int .i64 b3]) (by simp [results, Yba.results12, go_sem]) rfl ⟨rfl, (Below.refl _ _).alloc (Nat.le_refl _) _⟩

theorem Yba.info55 : (Yba.prog.info? 55).map (fun i => (i.zero, i.size, i.bytes)) = some (some (.agg #[.int .i64 0, .int .i64 0, .int .i64 0, .int .i64 0, .int .i64 0]), 5, 40) := by kernel_rfl

/-- A row of n zeroes. -/
def zeroRow (n : Nat) : Obj := .cells (madeCells #[.int .i64 0, .int .i64 0, .int .i64 0, .int .i64 0, .int .i64 0] (n * 5)) 55

theorem make_row (n : Nat) (hn : n ≤ 1024) (w : World) : (Instr.makeSlice 27 (.int .i64 n) (.int .i64 n)).run Yba.prog w = .ok (.slice (some ⟨w.heap.size, 0, none⟩) n n) (w.alloc (zeroRow n)) := by
  obtain ⟨i0, hi, hz0, hz1, hz2⟩ := info_parts Yba.info55
  have := run_make (P := Yba.prog) w 27 55 i0 _ Yba.underlying27 hi hz0 .i64 .i64 n n (by omega) (Int.le_refl _) (by rw [hz2]; omega) (by omega)
  rw [hz1] at this
  simpa [zeroRow, Value.cells] using this

theorem heap_four (w : World) (A B C D : Obj) : ((((w.alloc A).alloc B).alloc C).alloc D).heap[w.heap.size]? = some A ∧ ((((w.alloc A).alloc B).alloc C).alloc D).heap[w.heap.size + 1]? = some B ∧ ((((w.alloc A).alloc B).alloc C).alloc D).heap[w.heap.size + 1 + 1]? = some C ∧ ((((w.alloc A).alloc B).alloc C).alloc D).heap[w.heap.size + 1 + 1 + 1]? = some D := by
  obtain ⟨h1, h2, h3⟩ := heap_three w A B C
  refine ⟨?_, ?_, ?_, ?_⟩
  · rw [Below.heap_alloc _ _ _ (by simp; omega)]; exact h1
  · rw [Below.heap_alloc _ _ _ (by simp)]; exact h2
  · rw [Below.heap_alloc _ _ _ (by simp)]; exact h3
  · have := heap_alloc_new (((w.alloc A).alloc B).alloc C) D; rwa [World.size_alloc, World.size_alloc, World.size_alloc] at this
theorem below_four' (w : World) (A B C D : Obj) : Below w.heap.size w ((((w.alloc A).alloc B).alloc C).alloc D) := (below_three w A B C).alloc (by simp; omega) _

/-- The two rows, the variable e, and the result's cell, as they are made. -/
structure NewAt (w wc : World) (R S E n : Nat) : Prop where
  below : Below w.heap.size w wc
  r : w.heap.size < R
  s : w.heap.size < S
  e : w.heap.size < E
  rs : R ≠ S
  re : R ≠ E
  se : S ≠ E
  rowR : wc.heap[R]? = some (zeroRow n)
  rowS : wc.heap[S]? = some (zeroRow n)
  box : wc.heap[E]? = some (.cells #[.slice (some ⟨R, 0, none⟩) n n, .slice (some ⟨S, 0, none⟩) n n] 29 (0, 0))
  res : wc.heap[w.heap.size]? = some (.cells #[.slice none 0 0, .slice none 0 0] 29 (0, 0))

theorem get_made (z : Array Value) (m t : Nat) (h : t < m) (hz : 0 < z.size) : (madeCells z m)[t]? = z[t % z.size]? := by
  simp [madeCells, h, Nat.mod_lt _ hz]

theorem zeroRow_row {w : World} {b n : Nat} (h : w.heap[b]? = some (zeroRow n)) : RowF w b n (fun _ => ((0, 0, 0, 0), 0)) := by
  refine ⟨_, h, size_madeCells _ _, fun j hj => ?_⟩
  refine ⟨?_, ?_, ?_, ?_, ?_⟩
  · rw [get_made _ _ _ (by omega) (by simp), show (j * 5) % #[Value.int .i64 0, .int .i64 0, .int .i64 0, .int .i64 0, .int .i64 0].size = 0 by simp]; rfl
  · rw [get_made _ _ _ (by omega) (by simp), show (j * 5 + 1) % #[Value.int .i64 0, .int .i64 0, .int .i64 0, .int .i64 0, .int .i64 0].size = 1 by simp]; rfl
  · rw [get_made _ _ _ (by omega) (by simp), show (j * 5 + 2) % #[Value.int .i64 0, .int .i64 0, .int .i64 0, .int .i64 0, .int .i64 0].size = 2 by simp]; rfl
  · rw [get_made _ _ _ (by omega) (by simp), show (j * 5 + 3) % #[Value.int .i64 0, .int .i64 0, .int .i64 0, .int .i64 0, .int .i64 0].size = 3 by simp]; rfl
  · rw [get_made _ _ _ (by omega) (by simp), show (j * 5 + 4) % #[Value.int .i64 0, .int .i64 0, .int .i64 0, .int .i64 0, .int .i64 0].size = 4 by simp]; rfl

theorem below_of_sep {w wr w' : World} {R S : Nat} (h : Below w.heap.size w wr) (k : Sep R S wr w') (hR : w.heap.size ≤ R) (hS : w.heap.size ≤ S) : Below w.heap.size w w' :=
  ⟨k.os.trans h.os, k.tape.trans h.tape, k.output.trans h.output, Nat.le_trans h.size k.size, fun i hi => (k.block i (Nat.lt_of_lt_of_le hi h.size) (by omega) (by omega)).trans (h.block i hi)⟩

/-- What the loop does not turn. -/
def NewRest (w wr : World) (S E R n : Nat) : Prop :=
  Below w.heap.size w wr ∧ RowF wr S n (fun _ => ((0, 0, 0, 0), 0)) ∧ wr.heap[E]? = some (.cells #[.slice (some ⟨R, 0, none⟩) n n, .slice (some ⟨S, 0, none⟩) n n] 29 (0, 0)) ∧ wr.heap[w.heap.size]? = some (.cells #[.slice none 0 0, .slice none 0 0] 29 (0, 0))

set_option maxHeartbeats 2000000 in
theorem new_any (T BX G n : Nat) (bx : Nat → LB) (ats : Nat → Int) (w : World) (hn : n ≤ 1024) (hpos : 0 < n) (hc : w.cell? ⟨BX, 0, none⟩ = some (.slice (some ⟨G, 0, none⟩) n n)) (hG : BoxF w G n bx) (hT : TxF w T n ats) :
    Calls Yba.prog 13 #[.slice (some ⟨T, 0, none⟩) n n, .func (.func 12) #[] #[.pointer (some ⟨BX, 0, none⟩)]] w fun e w' =>
      ∃ R S d s, e = .returned (recv R S n) ∧ Below w.heap.size w w' ∧ w.heap.size ≤ R ∧ w.heap.size ≤ S ∧ RowF w' R n d ∧ RowF w' S n s ∧ Tree d s n 0 n ∧ ∀ j, j < n → ∃ i, i < n ∧ d i = (bx j, ats j) := by
  have hmk := make_row n hn
  go_enter Yba.func13, Yba.ntmps13
  go_upto_region 1 with fail
  go_cut [5] (fun ev wc => ∃ R S E, ev = .pointer (some ⟨E, 0, none⟩) ∧ NewAt w wc R S E n)
  case first =>
    go_region
    all_goals
      go_wp2_with fail
      go_meet
      case rel =>
        first
          | exact ⟨w.heap.size + 1, w.heap.size + 1 + 1, w.heap.size + 1 + 1 + 1, rfl, ⟨(below_four' w _ _ _ _).drew, by omega, by omega, by omega, by omega, by omega, by omega, (heap_four w _ _ _ _).2.1, (heap_four w _ _ _ _).2.2.1, (heap_four w _ _ _ _).2.2.2, (heap_four w _ _ _ _).1⟩⟩
          | exact ⟨w.heap.size + 1, w.heap.size + 1 + 1 + 1, w.heap.size + 1 + 1, rfl, ⟨(below_four' w _ _ _ _).drew, by omega, by omega, by omega, by omega, by omega, by omega, (heap_four w _ _ _ _).2.1, (heap_four w _ _ _ _).2.2.2, (heap_four w _ _ _ _).2.2.1, (heap_four w _ _ _ _).1⟩⟩
          | exact ⟨w.heap.size + 1 + 1, w.heap.size + 1, w.heap.size + 1 + 1 + 1, rfl, ⟨(below_four' w _ _ _ _).drew, by omega, by omega, by omega, by omega, by omega, by omega, (heap_four w _ _ _ _).2.2.1, (heap_four w _ _ _ _).2.1, (heap_four w _ _ _ _).2.2.2, (heap_four w _ _ _ _).1⟩⟩
          | exact ⟨w.heap.size + 1 + 1, w.heap.size + 1 + 1 + 1, w.heap.size + 1, rfl, ⟨(below_four' w _ _ _ _).drew, by omega, by omega, by omega, by omega, by omega, by omega, (heap_four w _ _ _ _).2.2.1, (heap_four w _ _ _ _).2.2.2, (heap_four w _ _ _ _).2.1, (heap_four w _ _ _ _).1⟩⟩
          | exact ⟨w.heap.size + 1 + 1 + 1, w.heap.size + 1, w.heap.size + 1 + 1, rfl, ⟨(below_four' w _ _ _ _).drew, by omega, by omega, by omega, by omega, by omega, by omega, (heap_four w _ _ _ _).2.2.2, (heap_four w _ _ _ _).2.1, (heap_four w _ _ _ _).2.2.1, (heap_four w _ _ _ _).1⟩⟩
          | exact ⟨w.heap.size + 1 + 1 + 1, w.heap.size + 1 + 1, w.heap.size + 1, rfl, ⟨(below_four' w _ _ _ _).drew, by omega, by omega, by omega, by omega, by omega, by omega, (heap_four w _ _ _ _).2.2.2, (heap_four w _ _ _ _).2.2.1, (heap_four w _ _ _ _).2.1, (heap_four w _ _ _ _).1⟩⟩
  case rest =>
    obtain ⟨R, S, E, rfl, hnew⟩ := hcut
    obtain ⟨nb, nr, ns, ne, nrs, nre, nse, nR, nS, nE, nres⟩ := hnew
    have hBX := World.block_lt_of_cell? w _ hc
    have hGl := hG.lt
    have hTl := hT.lt
    have z1 := zeroRow_row nR
    have z2 := zeroRow_row nS
    clear nR nS hmk
    go_wp2
    go_loopw [17] (fun i wr => ∃ (k : Nat) (d : Nat → RB), k ≤ n ∧ i = .int .i64 k ∧ RowF wr R n d ∧ (∀ j, j < k → d j = (bx j, ats j)) ∧ NewRest w wr S E R n) (fun i _ => n - (intOf i).toNat)
    case atStart => exact ⟨0, _, Nat.zero_le _, rfl, z1, fun j hj => by omega, nb, z2, nE, nres⟩
    case round =>
      obtain ⟨k, d, hk, rfl, hR, hd, hb, hS, hE, hres⟩ := hrel
      by_cases hlt : k < n
      · have hlt' : (k : Int) < (n : Int) := by omega
        have hk0 : (0 : Int) ≤ (k : Int) := by omega
        obtain ⟨t0, t1⟩ := hT.cells hlt
        have t0' := (hb.cell (p := ⟨T, k * 2, none⟩) hTl).trans t0
        have t1' := (hb.cell (p := ⟨T, k * 2 + 1, none⟩) hTl).trans t1
        obtain ⟨a, ha⟩ : ∃ a, a = ats k := ⟨_, rfl⟩
        rw [← ha] at t1 t1'
        have HA : Hid (a = ats k) := ha
        clear ha
        have hTr : T < wr.heap.size := Nat.lt_of_lt_of_le hTl hb.size
        go_wp2_with fail
        generalize hwq : wr.alloc (.cells #[.int .i64 k, .int .i64 a] 51) = wq
        have bq : Below wr.heap.size wr wq := by rw [← hwq]; exact (Below.refl _ _).alloc (Nat.le_refl _) _
        have bw : Below w.heap.size w wq := hb.trans (bq.mono hb.size)
        have hq := heap_alloc_new wr (.cells #[.int .i64 k, .int .i64 a] 51)
        rw [hwq] at hq
        have hE' : wq.heap[E]? = _ := (bq.block E (Array.getElem?_eq_some_iff.1 hE).1).trans hE
        have f1 : ∀ p, (ext wq p).cell? ⟨E, 0, none⟩ = some (.slice (some ⟨R, 0, none⟩) n n) := block_ext hE' rfl
        have f2 : ∀ p, (ext wq p).cell? ⟨wr.heap.size, 0, none⟩ = some (.int .i64 k) := block_ext hq rfl
        have f3 : ∀ p, (ext wq p).cell? ⟨wr.heap.size, 1, none⟩ = some (.int .i64 a) := block_ext hq rfl
        have hRq := hR.below bq
        have cR := fun p => (hRq.ext p).cells hlt
        have c0 := fun p => (cR p).1
        have c1 := fun p => (cR p).2.1
        have c2 := fun p => (cR p).2.2.1
        have c3 := fun p => (cR p).2.2.2.1
        have c4 := fun p => (cR p).2.2.2.2
        have g0 := fun p => (hRq.ext p).frozen (k * 5)
        have g1 := fun p => (hRq.ext p).frozen (k * 5 + 1)
        have g2 := fun p => (hRq.ext p).frozen (k * 5 + 2)
        have g3 := fun p => (hRq.ext p).frozen (k * 5 + 3)
        have g4 := fun p => (hRq.ext p).frozen (k * 5 + 4)
        have hof : ∀ p, Calls Yba.prog 12 #[.int .i64 k, .pointer (some ⟨BX, 0, none⟩)] (ext wq p) fun e w' => e = .returned (.agg (lbCells (bx k))) ∧ Below (ext wq p).heap.size (ext wq p) w' := fun p =>
          have bp := bw.trans ((below_ext wq p).mono bw.size)
          of_any BX G n k bx _ hn hlt ((bp.cell (p := ⟨BX, 0, none⟩) hBX).trans hc) (hG.of_block (bp.block G hGl))
        obtain ⟨b, hbx⟩ : ∃ b, b = bx k := ⟨_, rfl⟩
        rw [← hbx] at hof
        have HB : Hid (b = bx k) := hbx
        clear hbx cR
        obtain ⟨b0, b1, b2, b3⟩ := b
        simp only [lbCells] at hof
        clear hwq t0 t1
        refine wp_region_ext_tail 11 (by kernel_rfl) (by kernel_rfl) ?_
        simp only [List.take_succ_cons, List.take_zero, List.drop_succ_cons, List.drop_zero]
        repeat (quiet_step ((go_at_call 12; exact calls_ext (hof _))))
        refine wpQuiet_nil ?_
        rintro _ ⟨p, rfl⟩
        go_wp2
        go_roundw
        case rel =>
          have t1 := (hRq.ext p).store (r := k) hlt ((b0, b1, b2, b3), a)
          have t2 := Sep.five (R := R) (S := R) (b := R) (.inl rfl) (((Sep.refl R R wr).trans (Sep.below bq)).trans (Sep.below (below_ext wq p))) (k * 5) (k * 5 + 1) (k * 5 + 2) (k * 5 + 3) (k * 5 + 4) (.int .i64 b0) (.int .i64 b1) (.int .i64 b2) (.int .i64 b3) (.int .i64 a)
          have hle : w.heap.size ≤ R := by omega
          refine ⟨k + 1, upd d k ((b0, b1, b2, b3), a), by omega, by go_num, t1, fun j hj => ?_, (((((bw.trans ((below_ext wq p).mono bw.size)).setCell hle _).setCell hle _).setCell hle _).setCell hle _).setCell hle _, hS.sep_other t2 (Ne.symm nrs) (Ne.symm nrs),
            (t2.block E (Array.getElem?_eq_some_iff.1 hE).1 (Ne.symm nre) (Ne.symm nre)).trans hE, (t2.block _ (Array.getElem?_eq_some_iff.1 hres).1 (by omega) (by omega)).trans hres⟩
          by_cases hjk : j = k
          · subst hjk; rw [upd_same, HB.out, HA.out]
          · rw [upd_other _ _ hjk]; exact hd j (by omega)
        case measure => simp [intOf]; omega
      · have e0 : wr.cell? ⟨E, 0, none⟩ = some (.slice (some ⟨R, 0, none⟩) n n) := cell_of_row _ _ 0 _ _ _ hE
        have e1 : wr.cell? ⟨E, 1, none⟩ = some (.slice (some ⟨S, 0, none⟩) n n) := cell_of_row _ _ 1 _ _ _ hE
        have hbd := build_any R S n hn nrs n 0 n 0 wr d _ (by omega) hpos (Nat.le_refl _) (by omega) hR hS
        rw [show ((0 : Nat) : Int) = 0 from rfl] at hbd
        go_wp2_with fail
        refine hbd.mono ?_
        rintro e w2 ⟨rfl, d2, s2, hR2, hS2, hm2, hs2, ht2, sep2⟩
        have E0 := cell_sep e0 sep2 (Ne.symm nre) (Ne.symm nse)
        have E1 := cell_sep e1 sep2 (Ne.symm nre) (Ne.symm nse)
        have hres2 := (sep2.block _ (Array.getElem?_eq_some_iff.1 hres).1 (by omega) (by omega)).trans hres
        have r0 : w2.cell? ⟨w.heap.size, 0, none⟩ = some (.slice none 0 0) := cell_of_row _ _ 0 _ _ _ hres2
        have r1 : w2.cell? ⟨w.heap.size, 1, none⟩ = some (.slice none 0 0) := cell_of_row _ _ 1 _ _ _ hres2
        have q0 : w2.frozen? ⟨w.heap.size, 0, none⟩ = false := frozen_of_row _ _ _ _ _ hres2
        have q1 : w2.frozen? ⟨w.heap.size, 1, none⟩ = false := frozen_of_row _ _ _ _ _ hres2
        go_wp2
        have B2 := below_of_sep hb sep2 (by omega) (by omega)
        refine bodyPost_ret (v := recv R S n) (by simp [results, Yba.results13, go_sem, r0, r1]) rfl ⟨R, S, d2, s2, rfl, (B2.setCell (Nat.le_refl _) _).setCell (Nat.le_refl _) _, by omega, by omega, ?_, ?_, ht2, fun j hj => ?_⟩
        · exact hR2.of_block (by rw [Below.heap_setCell _ _ _ _ (show R ≠ w.heap.size by omega), Below.heap_setCell _ _ _ _ (show R ≠ w.heap.size by omega)])
        · exact hS2.of_block (by rw [Below.heap_setCell _ _ _ _ (show S ≠ w.heap.size by omega), Below.heap_setCell _ _ _ _ (show S ≠ w.heap.size by omega)])
        · obtain ⟨i, _, hi, he⟩ := hm2.2 j (by omega) hj
          exact ⟨i, hi, he.trans (hd j (by omega))⟩
end Go.Proofs.Ybulkcusg
