/- A row of readBoxes in a block of its own: what is read, what a store leaves, what the sort leaves. -/
import Derived.Test.YbulkcusgTree
namespace Go.Proofs.Ybulkcusg
open Go.RowKit Go.Sort
set_option linter.unusedVariables false

/-- Block b holds the n readBoxes d 0, .., d (n - 1). -/
def RowF (w : World) (b n : Nat) (d : Nat → RB) : Prop :=
  ∃ cs : Array Value, w.heap[b]? = some (.cells cs 55 (0, 0)) ∧ cs.size = n * 5 ∧ ∀ j, j < n →
    cs[j * 5]? = some (.int .i64 (d j).1.1) ∧ cs[j * 5 + 1]? = some (.int .i64 (d j).1.2.1) ∧ cs[j * 5 + 2]? = some (.int .i64 (d j).1.2.2.1) ∧ cs[j * 5 + 3]? = some (.int .i64 (d j).1.2.2.2) ∧ cs[j * 5 + 4]? = some (.int .i64 (d j).2)

theorem RowF.lt {w : World} {b n : Nat} {d : Nat → RB} (h : RowF w b n d) : b < w.heap.size := by
  obtain ⟨cs, hh, _⟩ := h
  exact (Array.getElem?_eq_some_iff.1 hh).1

theorem RowF.of_block {w w' : World} {b n : Nat} {d : Nat → RB} (h : RowF w b n d) (e : w'.heap[b]? = w.heap[b]?) : RowF w' b n d := by
  obtain ⟨cs, hh, r⟩ := h
  exact ⟨cs, e.trans hh, r⟩

theorem RowF.congr {w : World} {b n : Nat} {d d' : Nat → RB} (h : RowF w b n d) (e : ∀ j, j < n → d' j = d j) : RowF w b n d' := by
  obtain ⟨cs, hh, hs, r⟩ := h
  exact ⟨cs, hh, hs, fun j hj => by rw [e j hj]; exact r j hj⟩

/-- Element j's five cells. -/
theorem RowF.cells {w : World} {b n : Nat} {d : Nat → RB} (h : RowF w b n d) {j : Nat} (hj : j < n) :
    w.cell? ⟨b, j * 5, none⟩ = some (.int .i64 (d j).1.1) ∧ w.cell? ⟨b, j * 5 + 1, none⟩ = some (.int .i64 (d j).1.2.1) ∧ w.cell? ⟨b, j * 5 + 2, none⟩ = some (.int .i64 (d j).1.2.2.1) ∧
      w.cell? ⟨b, j * 5 + 3, none⟩ = some (.int .i64 (d j).1.2.2.2) ∧ w.cell? ⟨b, j * 5 + 4, none⟩ = some (.int .i64 (d j).2) := by
  obtain ⟨cs, hh, hs, r⟩ := h
  obtain ⟨r0, r1, r2, r3, r4⟩ := r j hj
  refine ⟨?_, ?_, ?_, ?_, ?_⟩ <;> rw [cell_of_row w b _ cs 55 (0, 0) hh] <;> assumption

theorem RowF.frozen {w : World} {b n : Nat} {d : Nat → RB} (h : RowF w b n d) (o : Nat) : w.frozen? ⟨b, o, none⟩ = false := by
  obtain ⟨cs, hh, _⟩ := h
  exact frozen_of_row w b o cs 55 hh

/-- A store of a whole element. -/
theorem RowF.store {w : World} {b n : Nat} {d : Nat → RB} (h : RowF w b n d) {r : Nat} (hr : r < n) (x : RB) :
    RowF (((((w.setCell ⟨b, r * 5, none⟩ (.int .i64 x.1.1)).setCell ⟨b, r * 5 + 1, none⟩ (.int .i64 x.1.2.1)).setCell ⟨b, r * 5 + 2, none⟩ (.int .i64 x.1.2.2.1)).setCell ⟨b, r * 5 + 3, none⟩ (.int .i64 x.1.2.2.2)).setCell ⟨b, r * 5 + 4, none⟩ (.int .i64 x.2)) b n (upd d r x) := by
  obtain ⟨cs, hh, hs, hc⟩ := h
  have h1 := heap_setCell_same w b (r * 5) cs 55 (.int .i64 x.1.1) hh
  have h2 := heap_setCell_same _ b (r * 5 + 1) _ 55 (.int .i64 x.1.2.1) h1
  have h3 := heap_setCell_same _ b (r * 5 + 2) _ 55 (.int .i64 x.1.2.2.1) h2
  have h4 := heap_setCell_same _ b (r * 5 + 3) _ 55 (.int .i64 x.1.2.2.2) h3
  have h5 := heap_setCell_same _ b (r * 5 + 4) _ 55 (.int .i64 x.2) h4
  refine ⟨_, h5, by simpa using hs, fun j hj => ?_⟩
  simp only [Array.getElem?_setIfInBounds, Array.size_setIfInBounds]
  by_cases hjr : j = r
  · subst hjr
    rw [upd_same]
    refine ⟨?_, ?_, ?_, ?_, ?_⟩
    · rw [if_neg (by omega), if_neg (by omega), if_neg (by omega), if_neg (by omega), if_pos rfl, if_pos (by omega)]
    · rw [if_neg (by omega), if_neg (by omega), if_neg (by omega), if_pos rfl, if_pos (by omega)]
    · rw [if_neg (by omega), if_neg (by omega), if_pos rfl, if_pos (by omega)]
    · rw [if_neg (by omega), if_pos rfl, if_pos (by omega)]
    · rw [if_pos rfl, if_pos (by omega)]
  · rw [upd_other _ _ hjr]
    obtain ⟨r0, r1, r2, r3, r4⟩ := hc j hj
    refine ⟨?_, ?_, ?_, ?_, ?_⟩ <;> rw [if_neg (by omega), if_neg (by omega), if_neg (by omega), if_neg (by omega), if_neg (by omega)] <;> assumption

/-- The m readBoxes from lo on, as an array. -/
def arr (d : Nat → RB) (lo m : Nat) : Array RB := (Array.range m).map fun i => d (lo + i)
@[simp] theorem size_arr (d : Nat → RB) (lo m : Nat) : (arr d lo m).size = m := by simp [arr]
theorem get_arr (d : Nat → RB) (lo m : Nat) {i : Nat} (h : i < m) : (arr d lo m)[i]! = d (lo + i) := by simp [arr, h]

theorem RowF.holds {w : World} {b n : Nat} {d : Nat → RB} (h : RowF w b n d) (lo m : Nat) (hm : lo + m ≤ n) : HoldsK rbList 5 w b (lo * 5) (arr d lo m) := by
  intro t ht
  rw [size_flatK, size_arr] at ht
  have hi : t / 5 < m := Nat.div_lt_of_lt_mul (by omega)
  refine ⟨?_, h.frozen _⟩
  rw [get_flatK _ _ _ _ (by rw [size_arr]; exact ht), get_arr d lo m hi]
  obtain ⟨c0, c1, c2, c3, c4⟩ := h.cells (j := lo + t / 5) (by omega)
  have e : lo * 5 + t = (lo + t / 5) * 5 + t % 5 := by omega
  rw [e]
  have h5 : t % 5 < 5 := Nat.mod_lt _ (by omega)
  generalize t % 5 = c at h5 ⊢
  match c, h5 with
  | 0, _ => exact c0
  | 1, _ => exact c1
  | 2, _ => exact c2
  | 3, _ => exact c3
  | 4, _ => exact c4

/-- Behind the sort of the m readBoxes from lo on. -/
theorem RowF.sorted {w : World} {b n : Nat} {d : Nat → RB} (h : RowF w b n d) (lo m : Nat) (hm : lo + m ≤ n) (q : Nat) (d' : Array RB) (os : Array Obj) (hs' : d'.size = m) :
    RowF (sortWorldK rbList 5 w b (lo * 5) q d' os) b n (fun j => if lo ≤ j ∧ j < lo + m then d'[j - lo]! else d j) := by
  have hlt := h.lt
  obtain ⟨cs, hh, hs, hc⟩ := h
  refine ⟨putCells id (lo * 5) (flatK rbList 5 d') cs, ?_, by simpa [putCells] using hs, fun j hj => ?_⟩
  · unfold sortWorldK
    rw [heap_grow_old _ _ (by rw [size_putRowK]; exact hlt)]
    simp only [putRowK, putRow, mapBlock, Sort.ahead, Array.getElem?_modify]
    rw [if_pos trivial, hh]
    rfl
  · have hget : ∀ c, c < 5 → (putCells id (lo * 5) (flatK rbList 5 d') cs)[j * 5 + c]? = if lo ≤ j ∧ j < lo + m then some ((rbList d'[j - lo]!)[c]!) else cs[j * 5 + c]? := by
      intro c hc5
      have hlt5 : j * 5 + c < cs.size := by omega
      simp only [putCells, Array.getElem?_mapIdx, size_flatK, hs', id]
      by_cases hin : lo ≤ j ∧ j < lo + m
      · rw [if_pos hin, Array.getElem?_eq_getElem hlt5]
        simp only [Option.map_some]
        rw [if_pos (by omega), get_flatK _ _ _ _ (by rw [hs']; omega)]
        have e1 : (j * 5 + c - lo * 5) / 5 = j - lo := by omega
        have e2 : (j * 5 + c - lo * 5) % 5 = c := by omega
        rw [e1, e2]
      · rw [if_neg hin, Array.getElem?_eq_getElem hlt5]
        simp only [Option.map_some]
        rw [if_neg (by omega)]
    obtain ⟨r0, r1, r2, r3, r4⟩ := hc j hj
    have g0 := hget 0 (by omega)
    rw [Nat.add_zero] at g0
    by_cases hin : lo ≤ j ∧ j < lo + m
    · simp only [if_pos hin] at hget g0 ⊢
      exact ⟨g0, hget 1 (by omega), hget 2 (by omega), hget 3 (by omega), hget 4 (by omega)⟩
    · simp only [if_neg hin] at hget g0 ⊢
      exact ⟨g0.trans r0, (hget 1 (by omega)).trans r1, (hget 2 (by omega)).trans r2, (hget 3 (by omega)).trans r3, (hget 4 (by omega)).trans r4⟩

/-- .. nothing is lost. -/
theorem moves_sorted (d : Nat → RB) (lo m : Nat) (d' : Array RB) (hp : PermIn 0 m (arr d lo m) d') : Moves lo (lo + m) d (fun j => if lo ≤ j ∧ j < lo + m then d'[j - lo]! else d j) := by
  obtain ⟨h1, _, h3⟩ := hp
  have hs' : d'.size = m := by simpa using h1
  refine ⟨fun j hj => if_neg (by omega), fun j a b => ?_⟩
  have e0 : d'.extract 0 m = d' := by rw [← hs']; simp
  have e1 : (arr d lo m).extract 0 m = arr d lo m := by
    apply Array.ext
    · simp
    · intro i h1 h2
      simp
  rw [e0, e1] at h3
  have hmem : d j ∈ (arr d lo m).toList := by
    rw [List.mem_iff_getElem]
    refine ⟨j - lo, by simp [arr]; omega, ?_⟩
    simp only [arr, Array.getElem_toList, Array.getElem_map, Array.getElem_range]
    rw [show lo + (j - lo) = j by omega]
  have hmem' := h3.mem_iff.2 hmem
  obtain ⟨i, hi, he⟩ := List.mem_iff_getElem.1 hmem'
  have hi' : i < d'.size := by simpa using hi
  refine ⟨lo + i, by omega, by omega, ?_⟩
  show (if lo ≤ lo + i ∧ lo + i < lo + m then d'[lo + i - lo]! else d (lo + i)) = d j
  rw [if_pos (by omega), show lo + i - lo = i by omega, getElem!_pos d' i hi', ← he]
  simp

/-- All that was there is as it was, but for the two blocks R and S. -/
structure Sep (R S : Nat) (w w' : World) : Prop where
  os : w'.os = w.os
  tape : w'.tape = w.tape
  output : w'.output = w.output
  size : w.heap.size ≤ w'.heap.size
  block : ∀ k, k < w.heap.size → k ≠ R → k ≠ S → w'.heap[k]? = w.heap[k]?

theorem Sep.refl (R S : Nat) (w : World) : Sep R S w w := ⟨rfl, rfl, rfl, Nat.le_refl _, fun _ _ _ _ => rfl⟩
theorem Sep.trans {R S : Nat} {a b c : World} (h : Sep R S a b) (k : Sep R S b c) : Sep R S a c :=
  ⟨k.os.trans h.os, k.tape.trans h.tape, k.output.trans h.output, Nat.le_trans h.size k.size, fun i hi h1 h2 => (k.block i (Nat.lt_of_lt_of_le hi h.size) h1 h2).trans (h.block i hi h1 h2)⟩
theorem Sep.below {R S : Nat} {w w' : World} (h : Below w.heap.size w w') : Sep R S w w' := ⟨h.os, h.tape, h.output, h.size, fun k hk _ _ => h.block k hk⟩
theorem Sep.cell {R S : Nat} {w w' : World} (h : Sep R S w w') {p : Addr} (hp : p.block < w.heap.size) (h1 : p.block ≠ R) (h2 : p.block ≠ S) : w'.cell? p = w.cell? p := World.cell?_of_block (w := w) (h.block p.block hp h1 h2)
theorem Sep.set {R S b : Nat} (hb : b = R ∨ b = S) {w0 w : World} (h : Sep R S w0 w) (o : Nat) (x : Value) : Sep R S w0 (w.setCell ⟨b, o, none⟩ x) :=
  h.trans ⟨rfl, rfl, rfl, by simp [World.setCell], fun k hk h1 h2 => Below.heap_setCell _ _ _ _ (show k ≠ b by omega)⟩
theorem Sep.five {R S b : Nat} (hb : b = R ∨ b = S) {w0 w : World} (h : Sep R S w0 w) (a1 a2 a3 a4 a5 : Nat) (x1 x2 x3 x4 x5 : Value) :
    Sep R S w0 (((((w.setCell ⟨b, a1, none⟩ x1).setCell ⟨b, a2, none⟩ x2).setCell ⟨b, a3, none⟩ x3).setCell ⟨b, a4, none⟩ x4).setCell ⟨b, a5, none⟩ x5) :=
  ((((h.set hb _ _).set hb _ _).set hb _ _).set hb _ _).set hb _ _
theorem Sep.alloc {R S : Nat} {w0 w : World} (h : Sep R S w0 w) (o : Obj) : Sep R S w0 (w.alloc o) := h.trans (Sep.below ((Below.refl _ _).alloc (Nat.le_refl _) o))
theorem Sep.drewN {R S : Nat} {w0 w : World} (h : Sep R S w0 w) (n : Nat) : Sep R S w0 (w.drewN n) := h.trans (Sep.below (below_drewN (Below.refl _ _) n))
theorem Sep.sorted {R S : Nat} (w : World) (off q : Nat) (d' : Array RB) (os : Array Obj) : Sep R S w (sortWorldK rbList 5 w R off q d' os) := by
  refine ⟨rfl, rfl, rfl, by unfold sortWorldK; rw [size_grow, size_putRowK]; exact Nat.le_add_right _ _, fun k hk h1 h2 => ?_⟩
  unfold sortWorldK
  rw [heap_grow_old _ _ (by rw [size_putRowK]; exact hk)]
  simp only [putRowK, putRow, mapBlock, Sort.ahead, Array.getElem?_modify]
  rw [if_neg (by omega)]
end Go.Proofs.Ybulkcusg
