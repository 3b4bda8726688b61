/- Slices of bytes, and of entries of bytes, that came in, opened. -/
import Derived.Test.YbulkcuzuFmtMapped
import Derived.Deep.SlicePairs
import Derived.ProofKit
import Derived.OpenShut
import Derived.ChangeOld
namespace Go.Proofs
theorem Ybaf.cells5 : Ybaf.prog.cellsOf 5 = 1 := by kernel_rfl
theorem Ybaf.cells27 : Ybaf.prog.cellsOf 27 = 1 := by kernel_rfl
theorem Ybaf.cells29 : Ybaf.prog.cellsOf 29 = 1 := by kernel_rfl
theorem Ybaf.cells31 : Ybaf.prog.cellsOf 31 = 2 := by kernel_rfl
namespace YbulkcuzuFmt
open Go.ChangeShapes Go.WideShapes Go.ChangeAt Go.RowKit Go.Deep
set_option linter.unusedVariables false

section
variable {H : Type} {enc : TypeId × Value → H} {w : World} {base : Nat} {spare : Nat → Bool} {held : Bool} {fuel : Nat}

theorem bytes_open {v : Value} {x : DataW H × List MemPlace} (h : DataW.trod enc Ybaf.prog w base spare held fuel 27 [v] = some x) : ∃ ad n cap, v = .slice ad n cap ∧ BytesAt w ad n := by
  rcases open_slice1 Ybaf.underlying27 Ybaf.cells5 h with ⟨hcs, _⟩ | ⟨a, len, cap, m, k, V, D, Pl, hcs, _, hl, hm, hmm, _, hx⟩
  · simp at hcs
    exact ⟨none, 0, 0, hcs, fun h => absurd h (by omega)⟩
  · simp at hcs
    have hlm : len ≤ m := by rw [hmm]; split <;> omega
    refine ⟨some a, len, cap, hcs, fun h0 => ?_⟩
    obtain ⟨b, off, spot⟩ := a
    have hspot : spot = none := by simpa [Addr.add] using World.cell?_spot (hx 0 (by omega)).1
    subst hspot
    refine ⟨b, off, rfl, ?_, fun i hi => ?_⟩
    · have := World.block_lt_of_cell? w _ (hx 0 (by omega)).1
      simpa [Addr.add] using this
    · obtain ⟨c, t⟩ := hx i (by omega)
      obtain ⟨z, e, _, hw⟩ := DataW.trod_int Ybaf.underlying5 t
      simp at e
      rw [Addr.add_lit, e] at c
      have hz := bounds_u8 hw
      obtain ⟨q, hq⟩ : ∃ q : Nat, z = (q : Int) := ⟨z.toNat, by omega⟩
      subst hq
      exact ⟨q, by omega, c⟩

theorem bytes_open' {ad : Option Addr} {n cap : Nat} {x : DataW H × List MemPlace} (h : DataW.trod enc Ybaf.prog w base spare held fuel 27 [.slice ad n cap] = some x) : BytesAt w ad n := by
  obtain ⟨ad', n', cap', e, hb⟩ := bytes_open h
  cases e
  exact hb

/-- A slice of slices of bytes. -/
def RowsAt (w : World) (va : Option Addr) (vb vo l : Nat) (EA : Nat → Option Addr) (EL EC : Nat → Nat) : Prop :=
  (0 < l → va = some ⟨vb, vo, none⟩ ∧ vb < w.heap.size) ∧ ∀ j, j < l → w.cell? ⟨vb, vo + j, none⟩ = some (.slice (EA j) (EL j) (EC j)) ∧ BytesAt w (EA j) (EL j)

theorem rows_open {v : Value} {x : DataW H × List MemPlace} (h : DataW.trod enc Ybaf.prog w base spare held fuel 29 [v] = some x) : ∃ va vb vo l c EA EL EC, v = .slice va l c ∧ RowsAt w va vb vo l EA EL EC := by
  rcases open_slice1 Ybaf.underlying29 Ybaf.cells27 h with ⟨hcs, _⟩ | ⟨a, len, cap, m, k, V, D, Pl, hcs, _, hl, hm, hmm, _, hx⟩
  · simp at hcs
    exact ⟨none, 0, 0, 0, 0, fun _ => none, fun _ => 0, fun _ => 0, hcs, fun h => absurd h (by omega), fun j hj => absurd hj (by omega)⟩
  · simp at hcs
    have hlm : len ≤ m := by rw [hmm]; split <;> omega
    by_cases h0 : len = 0
    · exact ⟨some a, 0, 0, len, cap, fun _ => none, fun _ => 0, fun _ => 0, hcs, fun h => absurd h (by omega), fun j hj => absurd hj (by omega)⟩
    have each : ∀ j, j < len → ∃ r : Option Addr × Nat × Nat, w.cell? (a.add j) = some (.slice r.1 r.2.1 r.2.2) ∧ BytesAt w r.1 r.2.1 := fun j hj => by
      obtain ⟨c, t⟩ := hx j (by omega)
      obtain ⟨ad, n, cap, e, hb⟩ := bytes_open t
      exact ⟨(ad, n, cap), by rw [c, e], hb⟩
    obtain ⟨r, hr⟩ := choose_lt each
    obtain ⟨b, off, spot⟩ := a
    have hspot : spot = none := by simpa [Addr.add] using World.cell?_spot (hr 0 (by omega)).1
    subst hspot
    refine ⟨some ⟨b, off, none⟩, b, off, len, cap, fun j => (r j).1, fun j => (r j).2.1, fun j => (r j).2.2, hcs, fun _ => ⟨rfl, ?_⟩, fun j hj => ?_⟩
    · have := World.block_lt_of_cell? w _ (hr 0 (by omega)).1
      simpa [Addr.add] using this
    · have := hr j hj
      rwa [Addr.add_lit] at this

abbrev BD := Option Addr × Nat × Nat × Option Addr × Nat × Nat × Nat × Nat × (Nat → Option Addr) × (Nat → Nat) × (Nat → Nat)

theorem hb_open {ad : Option Addr} {n cap : Nat} {x : DataW H × List MemPlace} (h : DataW.trod enc Ybaf.prog w base spare held fuel 28 [.slice ad n cap] = some x) :
    ∃ b o KA VA KL KC VB VO VL VC EA EL EC, HB w ad b o n KA VA KL KC VB VO VL VC EA EL EC := by
  by_cases h0 : n = 0
  · subst h0
    exact ⟨0, 0, fun _ => none, fun _ => none, fun _ => 0, fun _ => 0, fun _ => 0, fun _ => 0, fun _ => 0, fun _ => 0, fun _ _ => none, fun _ _ => 0, fun _ _ => 0, fun h => absurd h (by omega), fun h => absurd h (by omega),
      fun i hi => absurd hi (by omega), fun i hi => absurd hi (by omega), fun i hi => absurd hi (by omega), fun i hi => absurd hi (by omega), fun i hi => absurd hi (by omega), fun i hi => absurd hi (by omega)⟩
  rcases open_slice_pairs Ybaf.underlying28 Ybaf.underlying31 Ybaf.cells31 rfl rfl Ybaf.cells27 Ybaf.cells29 h with ⟨hcs, _⟩ | ⟨a, len, cap', m, k, V0, V1, D0, D1, P0, P1, hcs, _, hl, hm, hmm, _, hall⟩
  · simp at hcs
    exact absurd hcs.2.1 h0
  · simp at hcs
    obtain ⟨rfl, rfl, rfl⟩ := hcs
    have hlm : n ≤ m := by rw [hmm]; split <;> omega
    have each : ∀ i, i < n → ∃ r : BD, w.cell? (a.add (i * 2)) = some (.slice r.1 r.2.1 r.2.2.1) ∧ BytesAt w r.1 r.2.1 ∧ w.cell? (a.add (i * 2 + 1)) = some (.slice r.2.2.2.1 r.2.2.2.2.2.2.1 r.2.2.2.2.2.2.2.1) ∧
        RowsAt w r.2.2.2.1 r.2.2.2.2.1 r.2.2.2.2.2.1 r.2.2.2.2.2.2.1 r.2.2.2.2.2.2.2.2.1 r.2.2.2.2.2.2.2.2.2.1 r.2.2.2.2.2.2.2.2.2.2 := fun i hi => by
      obtain ⟨c0, c1, t0, t1⟩ := hall i (by omega)
      obtain ⟨ka, kl, kc, e0, hb⟩ := bytes_open t0
      obtain ⟨va, vb, vo, l, c, EA, EL, EC, e1, hr⟩ := rows_open t1
      exact ⟨(ka, kl, kc, va, vb, vo, l, c, EA, EL, EC), by rw [c0, e0], hb, by rw [c1, e1], hr⟩
    obtain ⟨r, hr⟩ := choose_lt each
    obtain ⟨b, off, spot⟩ := a
    have hspot : spot = none := by simpa [Addr.add] using World.cell?_spot (hr 0 (by omega)).1
    subst hspot
    refine ⟨b, off, fun i => (r i).1, fun i => (r i).2.2.2.1, fun i => (r i).2.1, fun i => (r i).2.2.1, fun i => (r i).2.2.2.2.1, fun i => (r i).2.2.2.2.2.1, fun i => (r i).2.2.2.2.2.2.1, fun i => (r i).2.2.2.2.2.2.2.1,
      fun i => (r i).2.2.2.2.2.2.2.2.1, fun i => (r i).2.2.2.2.2.2.2.2.2.1, fun i => (r i).2.2.2.2.2.2.2.2.2.2, fun _ => rfl, fun _ => ?_, fun i hi => ?_, fun i hi => (hr i hi).2.1, fun i hi => ?_, fun i hi h => (hr i hi).2.2.2.1 h,
      fun i hi j hj => ((hr i hi).2.2.2.2 j hj).1, fun i hi j hj => ((hr i hi).2.2.2.2 j hj).2⟩
    · have := World.block_lt_of_cell? w _ (hr 0 (by omega)).1
      simpa [Addr.add] using this
    · have := (hr i hi).1
      rwa [Addr.add_lit] at this
    · have := (hr i hi).2.2.1
      rwa [Addr.add_lit] at this
end
end YbulkcuzuFmt
end Go.Proofs
