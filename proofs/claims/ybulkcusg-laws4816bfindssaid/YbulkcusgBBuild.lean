/- zzs4816bbuild. -/
import Derived.Test.YbulkcusgNew
import Derived.Deep.RegionHeld3
namespace Go.Proofs.Ybulkcusg
open Go.RowKit Go.Sort
set_option linter.unusedVariables false

/-- A reader, as it comes in: Lo0, Lo1, W0, W1, At. -/
abbrev RD := Int × Int × Int × Int × Int
/-- The n readers that came in, from ⟨b, off⟩ on. -/
def RsAt (w : World) (b off n : Nat) (rs : Nat → RD) : Prop :=
  b < w.heap.size ∧ ∀ i, i < n → w.cell? ⟨b, off + i * 5, none⟩ = some (.int .i8 (rs i).1) ∧ w.cell? ⟨b, off + i * 5 + 1, none⟩ = some (.int .i8 (rs i).2.1) ∧ w.cell? ⟨b, off + i * 5 + 2, none⟩ = some (.int .u8 (rs i).2.2.1) ∧
    w.cell? ⟨b, off + i * 5 + 3, none⟩ = some (.int .u8 (rs i).2.2.2.1) ∧ w.cell? ⟨b, off + i * 5 + 4, none⟩ = some (.int .i64 (rs i).2.2.2.2) ∧
    -128 ≤ (rs i).1 ∧ (rs i).1 ≤ 127 ∧ -128 ≤ (rs i).2.1 ∧ (rs i).2.1 ≤ 127 ∧ 0 ≤ (rs i).2.2.1 ∧ (rs i).2.2.1 ≤ 255 ∧ 0 ≤ (rs i).2.2.2.1 ∧ (rs i).2.2.2.1 ≤ 255
/-- The box of a reader. -/
def boxOf (r : RD) : LB := (r.1, r.2.1, r.1 + r.2.2.1, r.2.1 + r.2.2.2.1)

/-- The first k of the n boxes are laid. -/
def BoxTo (w : World) (G n k : Nat) (bx : Nat → LB) : Prop :=
  ∃ cs : Array Value, w.heap[G]? = some (.cells cs 36 (0, 0)) ∧ cs.size = n * 4 ∧ ∀ j, j < k →
    cs[j * 4]? = some (.int .i64 (bx j).1) ∧ cs[j * 4 + 1]? = some (.int .i64 (bx j).2.1) ∧ cs[j * 4 + 2]? = some (.int .i64 (bx j).2.2.1) ∧ cs[j * 4 + 3]? = some (.int .i64 (bx j).2.2.2)
def TxTo (w : World) (T n k : Nat) (ats : Nat → Int) : Prop :=
  ∃ cs : Array Value, w.heap[T]? = some (.cells cs 51 (0, 0)) ∧ cs.size = n * 2 ∧ ∀ j, j < k → cs[j * 2]? = some (.int .i64 j) ∧ cs[j * 2 + 1]? = some (.int .i64 (ats j))

theorem BoxTo.of_block {w w' : World} {G n k : Nat} {bx : Nat → LB} (h : BoxTo w G n k bx) (e : w'.heap[G]? = w.heap[G]?) : BoxTo w' G n k bx := by
  obtain ⟨cs, hh, r⟩ := h; exact ⟨cs, e.trans hh, r⟩
theorem TxTo.of_block {w w' : World} {T n k : Nat} {ats : Nat → Int} (h : TxTo w T n k ats) (e : w'.heap[T]? = w.heap[T]?) : TxTo w' T n k ats := by
  obtain ⟨cs, hh, r⟩ := h; exact ⟨cs, e.trans hh, r⟩
theorem BoxTo.there {w : World} {G n k : Nat} {bx : Nat → LB} (h : BoxTo w G n k bx) {o : Nat} (ho : o < n * 4) : (∃ v, w.cell? ⟨G, o, none⟩ = some v) ∧ w.frozen? ⟨G, o, none⟩ = false := by
  obtain ⟨cs, hh, hs, _⟩ := h
  exact ⟨⟨cs[o]'(by omega), by rw [cell_of_row w G o cs 36 (0, 0) hh]; simp⟩, frozen_of_row w G o cs 36 hh⟩
theorem TxTo.there {w : World} {T n k : Nat} {ats : Nat → Int} (h : TxTo w T n k ats) {o : Nat} (ho : o < n * 2) : (∃ v, w.cell? ⟨T, o, none⟩ = some v) ∧ w.frozen? ⟨T, o, none⟩ = false := by
  obtain ⟨cs, hh, hs, _⟩ := h
  exact ⟨⟨cs[o]'(by omega), by rw [cell_of_row w T o cs 51 (0, 0) hh]; simp⟩, frozen_of_row w T o cs 51 hh⟩

theorem BoxTo.step {w : World} {G n k : Nat} {bx : Nat → LB} (h : BoxTo w G n k bx) (hk : k < n) {b : LB} (hb : b = bx k) :
    BoxTo ((((w.setCell ⟨G, k * 4, none⟩ (.int .i64 b.1)).setCell ⟨G, k * 4 + 1, none⟩ (.int .i64 b.2.1)).setCell ⟨G, k * 4 + 2, none⟩ (.int .i64 b.2.2.1)).setCell ⟨G, k * 4 + 3, none⟩ (.int .i64 b.2.2.2)) G n (k + 1) bx := by
  subst hb
  obtain ⟨cs, hh, hs, hc⟩ := h
  have h1 := heap_setCell_same w G (k * 4) cs 36 (.int .i64 (bx k).1) hh
  have h2 := heap_setCell_same _ G (k * 4 + 1) _ 36 (.int .i64 (bx k).2.1) h1
  have h3 := heap_setCell_same _ G (k * 4 + 2) _ 36 (.int .i64 (bx k).2.2.1) h2
  have h4 := heap_setCell_same _ G (k * 4 + 3) _ 36 (.int .i64 (bx k).2.2.2) h3
  refine ⟨_, h4, by simpa using hs, fun j hj => ?_⟩
  simp only [Array.getElem?_setIfInBounds, Array.size_setIfInBounds]
  by_cases hjk : j = k
  · subst hjk
    refine ⟨?_, ?_, ?_, ?_⟩
    · rw [if_neg (by omega), if_neg (by omega), if_neg (by omega), if_pos rfl, if_pos (by omega)]
    · rw [if_neg (by omega), if_neg (by omega), if_pos rfl, if_pos (by omega)]
    · rw [if_neg (by omega), if_pos rfl, if_pos (by omega)]
    · rw [if_pos rfl, if_pos (by omega)]
  · obtain ⟨r0, r1, r2, r3⟩ := hc j (by omega)
    refine ⟨?_, ?_, ?_, ?_⟩ <;> rw [if_neg (by omega), if_neg (by omega), if_neg (by omega), if_neg (by omega)] <;> assumption

theorem TxTo.step {w : World} {T n k : Nat} {ats : Nat → Int} (h : TxTo w T n k ats) (hk : k < n) {a : Int} (ha : a = ats k) :
    TxTo ((w.setCell ⟨T, k * 2, none⟩ (.int .i64 k)).setCell ⟨T, k * 2 + 1, none⟩ (.int .i64 a)) T n (k + 1) ats := by
  subst ha
  obtain ⟨cs, hh, hs, hc⟩ := h
  have h1 := heap_setCell_same w T (k * 2) cs 51 (.int .i64 k) hh
  have h2 := heap_setCell_same _ T (k * 2 + 1) _ 51 (.int .i64 (ats k)) h1
  refine ⟨_, h2, by simpa using hs, fun j hj => ?_⟩
  simp only [Array.getElem?_setIfInBounds, Array.size_setIfInBounds]
  by_cases hjk : j = k
  · subst hjk
    refine ⟨?_, ?_⟩
    · rw [if_neg (by omega), if_pos rfl, if_pos (by omega)]
    · rw [if_pos rfl, if_pos (by omega)]
  · obtain ⟨r0, r1⟩ := hc j (by omega)
    refine ⟨?_, ?_⟩ <;> rw [if_neg (by omega), if_neg (by omega)] <;> assumption

theorem Yba.info36 : (Yba.prog.info? 36).map (fun i => (i.zero, i.size, i.bytes)) = some (some (.agg #[.int .i64 0, .int .i64 0, .int .i64 0, .int .i64 0]), 4, 32) := by kernel_rfl
theorem Yba.info51 : (Yba.prog.info? 51).map (fun i => (i.zero, i.size, i.bytes)) = some (some (.agg #[.int .i64 0, .int .i64 0]), 2, 16) := by kernel_rfl
def zeroBox (n : Nat) : Obj := .cells (madeCells #[.int .i64 0, .int .i64 0, .int .i64 0, .int .i64 0] (n * 4)) 36
def zeroTx (n : Nat) : Obj := .cells (madeCells #[.int .i64 0, .int .i64 0] (n * 2)) 51
theorem make_box (n : Nat) (hn : n ≤ 1024) (w : World) : (Instr.makeSlice 30 (.int .i64 n) (.int .i64 n)).run Yba.prog w = .ok (.slice (some ⟨w.heap.size, 0, none⟩) n n) (w.alloc (zeroBox n)) := by
  obtain ⟨i0, hi, hz0, hz1, hz2⟩ := info_parts Yba.info36
  have := run_make (P := Yba.prog) w 30 36 i0 _ Yba.underlying30 hi hz0 .i64 .i64 n n (by omega) (Int.le_refl _) (by rw [hz2]; omega) (by omega)
  rw [hz1] at this
  simpa [zeroBox, Value.cells] using this
theorem make_tx (n : Nat) (hn : n ≤ 1024) (w : World) : (Instr.makeSlice 31 (.int .i64 n) (.int .i64 n)).run Yba.prog w = .ok (.slice (some ⟨w.heap.size, 0, none⟩) n n) (w.alloc (zeroTx n)) := by
  obtain ⟨i0, hi, hz0, hz1, hz2⟩ := info_parts Yba.info51
  have := run_make (P := Yba.prog) w 31 51 i0 _ Yba.underlying31 hi hz0 .i64 .i64 n n (by omega) (Int.le_refl _) (by rw [hz2]; omega) (by omega)
  rw [hz1] at this
  simpa [zeroTx, Value.cells] using this

/-- What holds behind k rounds. -/
def BTo (w wr : World) (n k : Nat) (rs : Nat → RD) : Prop :=
  Below w.heap.size w wr ∧ BoxTo wr (w.heap.size + 1) n k (fun j => boxOf (rs j)) ∧ TxTo wr (w.heap.size + 1 + 1 + 1) n k (fun j => (rs j).2.2.2.2) ∧
  wr.heap[w.heap.size]? = some (.cells #[.slice none 0 0, .slice none 0 0] 29 (0, 0)) ∧ wr.heap[w.heap.size + 1 + 1]? = some (.cells #[.slice (some ⟨w.heap.size + 1, 0, none⟩) n n] 30 (0, 0))

theorem bto_zero (w : World) (n : Nat) (rs : Nat → RD) :
    BTo w ((((w.alloc (.cells #[.slice none 0 0, .slice none 0 0] 29)).alloc (zeroBox n)).alloc (.cells #[.slice (some ⟨w.heap.size + 1, 0, none⟩) n n] 30)).alloc (zeroTx n)) n 0 rs := by
  obtain ⟨h0, h1, h2, h3⟩ := heap_four w (.cells #[.slice none 0 0, .slice none 0 0] 29) (zeroBox n) (.cells #[.slice (some ⟨w.heap.size + 1, 0, none⟩) n n] 30) (zeroTx n)
  exact ⟨below_four' w _ _ _ _, ⟨_, h1, size_madeCells _ _, fun j hj => by omega⟩, ⟨_, h3, size_madeCells _ _, fun j hj => by omega⟩, h0, h2⟩

theorem bto_step {w wr : World} {n k : Nat} {rs : Nat → RD} {a0 a1 a2 a3 a4 : Int} (h : BTo w wr n k rs) (hk : k < n) (hr : (a0, a1, a2, a3, a4) = rs k) (o : Obj) :
    BTo w (((((((wr.setCell ⟨w.heap.size + 1, k * 4, none⟩ (.int .i64 a0)).setCell ⟨w.heap.size + 1, k * 4 + 1, none⟩ (.int .i64 a1)).setCell ⟨w.heap.size + 1, k * 4 + 2, none⟩ (.int .i64 (a0 + a2))).setCell ⟨w.heap.size + 1, k * 4 + 3, none⟩ (.int .i64 (a1 + a3))).setCell
      ⟨w.heap.size + 1 + 1 + 1, k * 2, none⟩ (.int .i64 k)).setCell ⟨w.heap.size + 1 + 1 + 1, k * 2 + 1, none⟩ (.int .i64 a4)).alloc o) n (k + 1) rs := by
  obtain ⟨hb, hB, hT, hres, hbox⟩ := h
  have e1 : ((a0, a1, a0 + a2, a1 + a3) : LB) = boxOf (rs k) := by rw [← hr]; rfl
  have e2 : a4 = (rs k).2.2.2.2 := by rw [← hr]
  have l1 : w.heap.size + 1 + 1 + 1 < wr.heap.size := by obtain ⟨cs, hh, _⟩ := hT; exact (Array.getElem?_eq_some_iff.1 hh).1
  have B1 := hB.step hk (b := (a0, a1, a0 + a2, a1 + a3)) e1
  simp only at B1
  generalize hw1 : (((wr.setCell ⟨w.heap.size + 1, k * 4, none⟩ (.int .i64 a0)).setCell ⟨w.heap.size + 1, k * 4 + 1, none⟩ (.int .i64 a1)).setCell ⟨w.heap.size + 1, k * 4 + 2, none⟩ (.int .i64 (a0 + a2))).setCell ⟨w.heap.size + 1, k * 4 + 3, none⟩ (.int .i64 (a1 + a3)) = w1 at B1 ⊢
  have oth : ∀ i, i ≠ w.heap.size + 1 → w1.heap[i]? = wr.heap[i]? := fun i hi => by
    rw [← hw1, Below.heap_setCell _ _ _ _ hi, Below.heap_setCell _ _ _ _ hi, Below.heap_setCell _ _ _ _ hi, Below.heap_setCell _ _ _ _ hi]
  have b1 : Below w.heap.size w w1 := by
    rw [← hw1]
    have hle : w.heap.size ≤ w.heap.size + 1 := by omega
    exact (((hb.setCell hle _).setCell hle _).setCell hle _).setCell hle _
  have T1 := (hT.of_block (oth _ (by omega))).step hk (a := a4) e2
  generalize hw2 : (w1.setCell ⟨w.heap.size + 1 + 1 + 1, k * 2, none⟩ (.int .i64 k)).setCell ⟨w.heap.size + 1 + 1 + 1, k * 2 + 1, none⟩ (.int .i64 a4) = w2 at T1 ⊢
  have oth2 : ∀ i, i ≠ w.heap.size + 1 + 1 + 1 → w2.heap[i]? = w1.heap[i]? := fun i hi => by
    rw [← hw2, Below.heap_setCell _ _ _ _ hi, Below.heap_setCell _ _ _ _ hi]
  have b2 : Below w.heap.size w w2 := by
    rw [← hw2]
    have hle : w.heap.size ≤ w.heap.size + 1 + 1 + 1 := by omega
    exact (b1.setCell hle _).setCell hle _
  have l2 : wr.heap.size ≤ w2.heap.size := by rw [← hw2, ← hw1]; simp [World.setCell]
  have al : ∀ i, i < wr.heap.size → (w2.alloc o).heap[i]? = w2.heap[i]? := fun i hi => Below.heap_alloc _ _ _ (by omega)
  exact ⟨b2.alloc b2.size _, B1.of_block ((al _ (by omega)).trans (oth2 _ (by omega))), T1.of_block (al _ (by omega)),
    ((al _ (by omega)).trans ((oth2 _ (by omega)).trans (oth _ (by omega)))).trans hres, ((al _ (by omega)).trans ((oth2 _ (by omega)).trans (oth _ (by omega)))).trans hbox⟩

set_option maxHeartbeats 4000000 in
theorem bbuild_any (b off n cap : Nat) (rs : Nat → RD) (w : World) (hn : n ≤ 1024) (hpos : 0 < n) (hr : RsAt w b off n rs) :
    Calls Yba.prog 6 #[.slice (some ⟨b, off, none⟩) n cap] w fun e w' =>
      ∃ R S G T d s, e = .returned (.tuple #[recv R S n, .slice (some ⟨G, 0, none⟩) n n, .slice (some ⟨T, 0, none⟩) n n]) ∧ Below w.heap.size w w' ∧ RowF w' R n d ∧ RowF w' S n s ∧ Tree d s n 0 n ∧ (∀ j, j < n → ∃ i, i < n ∧ d i = (boxOf (rs j), (rs j).2.2.2.2)) ∧
        BoxF w' G n (fun j => boxOf (rs j)) := by
  have hmb := make_box n hn
  have hmt := make_tx n hn
  go_enter Yba.func6, Yba.ntmps6
  go_wp2
  go_loopw [20] (fun i wr => ∃ k : Nat, k ≤ n ∧ i = .int .i64 k ∧ BTo w wr n k rs) (fun i _ => n - (intOf i).toNat)
  case atStart => exact ⟨0, Nat.zero_le _, rfl, bto_zero w n rs⟩
  case round =>
    obtain ⟨k, hk, rfl, hb, hB, hT, hres, hbox⟩ := hrel
    have l1 : w.heap.size + 1 + 1 + 1 < wr.heap.size := by obtain ⟨cs, hh, _⟩ := hT; exact (Array.getElem?_eq_some_iff.1 hh).1
    by_cases hlt : k < n
    · have hlt' : (k : Int) < (n : Int) := by omega
      have hk0 : (0 : Int) ≤ (k : Int) := by omega
      obtain ⟨hbl, hrs⟩ := hr
      obtain ⟨r0, r1, r2, r3, r4, i1, i2, i3, i4, i5, i6, i7, i8⟩ := hrs k hlt
      have hbr : b < wr.heap.size := Nat.lt_of_lt_of_le hbl hb.size
      have r0 := (hb.cell (p := ⟨b, off + k * 5, none⟩) hbl).trans r0
      have r1 := (hb.cell (p := ⟨b, off + k * 5 + 1, none⟩) hbl).trans r1
      have r2 := (hb.cell (p := ⟨b, off + k * 5 + 2, none⟩) hbl).trans r2
      have r3 := (hb.cell (p := ⟨b, off + k * 5 + 3, none⟩) hbl).trans r3
      have r4 := (hb.cell (p := ⟨b, off + k * 5 + 4, none⟩) hbl).trans r4
      obtain ⟨rk, hrk⟩ : ∃ r, r = rs k := ⟨_, rfl⟩
      rw [← hrk] at r0 r1 r2 r3 r4 i1 i2 i3 i4 i5 i6 i7 i8
      have HR : Hid (rk = rs k) := hrk
      clear hrk hrs
      obtain ⟨a0, a1, a2, a3, a4⟩ := rk
      simp only at r0 r1 r2 r3 r4 i1 i2 i3 i4 i5 i6 i7 i8
      obtain ⟨⟨g0, G0⟩, F0⟩ := hB.there (o := k * 4) (by omega)
      obtain ⟨⟨g1, G1⟩, F1⟩ := hB.there (o := k * 4 + 1) (by omega)
      obtain ⟨⟨g2, G2⟩, F2⟩ := hB.there (o := k * 4 + 2) (by omega)
      obtain ⟨⟨g3, G3⟩, F3⟩ := hB.there (o := k * 4 + 3) (by omega)
      obtain ⟨⟨t0, T0⟩, Z0⟩ := hT.there (o := k * 2) (by omega)
      obtain ⟨⟨t1, T1⟩, Z1⟩ := hT.there (o := k * 2 + 1) (by omega)
      have x0 : wr.cell? ⟨w.heap.size + 1 + 1, 0, none⟩ = some (.slice (some ⟨w.heap.size + 1, 0, none⟩) n n) := cell_of_row _ _ 0 _ _ _ hbox
      have l2 : w.heap.size + 1 < wr.heap.size := by omega
      have l3 : w.heap.size + 1 + 1 < wr.heap.size := by omega
      go_wp2
      go_roundw
      case rel => exact ⟨k + 1, by omega, by go_num, bto_step (w := w) ⟨hb, hB, hT, hres, hbox⟩ hlt HR.out _⟩
      case measure => simp [intOf]; omega
    · have hkn : k = n := by omega
      subst hkn
      have hB' : BoxF wr (w.heap.size + 1) k (fun j => boxOf (rs j)) := hB
      have hT' : TxF wr (w.heap.size + 1 + 1 + 1) k (fun j => (rs j).2.2.2.2) := hT
      have x0 : wr.cell? ⟨w.heap.size + 1 + 1, 0, none⟩ = some (.slice (some ⟨w.heap.size + 1, 0, none⟩) k k) := cell_of_row _ _ 0 _ _ _ hbox
      have hnew := fun W (hW : Below wr.heap.size wr W) => new_any (w.heap.size + 1 + 1 + 1) (w.heap.size + 1 + 1) (w.heap.size + 1) k (fun j => boxOf (rs j)) (fun j => (rs j).2.2.2.2) W hn hpos ((hW.cell (p := ⟨w.heap.size + 1 + 1, 0, none⟩) (by show w.heap.size + 1 + 1 < wr.heap.size; omega)).trans x0) (hB'.of_block (hW.block _ (by omega))) (hT'.of_block (hW.block _ (by omega)))
      go_wp2_with fail
      go_region_held3 (fun w' => w'.cell? ⟨w.heap.size + 1 + 1, 0, none⟩ = some (.slice (some ⟨w.heap.size + 1, 0, none⟩) k k))
        (first
          | go_keep
          | (rw [World.cell?_setCell_far _ _ _ _ (show w.heap.size ≠ w.heap.size + 1 + 1 by omega), World.cell?_setCell_far _ _ _ _ (show w.heap.size ≠ w.heap.size + 1 + 1 by omega)]; assumption)
          | (refine (hbn.cell (p := ⟨w.heap.size + 1 + 1, 0, none⟩) ?_).trans ?_; (show w.heap.size + 1 + 1 < wr.heap.size; omega); assumption))
        (first
          | (go_at_call 13; refine (hnew _ (by first | exact Below.refl _ _ | exact (Below.refl _ _).drew | exact below_drewN (Below.refl _ _) _)).mono ?_; rintro e w2 ⟨R, S, d, s, rfl, hbn, hR1, hS1, hRw, hSw, htr, hcv⟩; have hr2 := (hbn.block w.heap.size (by show w.heap.size < wr.heap.size; omega)).trans hres; have p0 : w2.cell? ⟨w.heap.size, 0, none⟩ = some (.slice none 0 0) := cell_of_row _ _ 0 _ _ _ hr2; have p1 : w2.cell? ⟨w.heap.size, 1, none⟩ = some (.slice none 0 0) := cell_of_row _ _ 1 _ _ _ hr2; have p2 : w2.frozen? ⟨w.heap.size, 0, none⟩ = false := frozen_of_row _ _ _ _ _ hr2; have p3 : w2.frozen? ⟨w.heap.size, 1, none⟩ = false := frozen_of_row _ _ _ _ _ hr2))
      go_wp2
      have hR1' : wr.heap.size ≤ R := hR1
      have hS1' : wr.heap.size ≤ S := hS1
      have oth : ∀ i x y, i ≠ w.heap.size → ((w2.setCell ⟨w.heap.size, 0, none⟩ x).setCell ⟨w.heap.size, 1, none⟩ y).heap[i]? = w2.heap[i]? := fun i x y hi => by
        rw [Below.heap_setCell _ _ _ _ hi, Below.heap_setCell _ _ _ _ hi]
      have hbn' : Below wr.heap.size wr w2 := ((Below.refl _ wr).drew).trans hbn
      have B2 : Below w.heap.size w w2 := hb.trans (hbn'.mono hb.size)
      exact bodyPost_ret (v := .tuple #[recv R S k, .slice (some ⟨w.heap.size + 1, 0, none⟩) k k, .slice (some ⟨w.heap.size + 1 + 1 + 1, 0, none⟩) k k]) (by simp [results, Yba.results6, go_sem, p0, p1]) rfl
        ⟨R, S, _, _, d, s, rfl, (B2.setCell (Nat.le_refl _) _).setCell (Nat.le_refl _) _, hRw.of_block (oth _ _ _ (by omega)), hSw.of_block (oth _ _ _ (by omega)), htr, hcv, hB'.of_block ((oth _ _ _ (by omega)).trans (hbn'.block _ (by omega)))⟩
end Go.Proofs.Ybulkcusg
