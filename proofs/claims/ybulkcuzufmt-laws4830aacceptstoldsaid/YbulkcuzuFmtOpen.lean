/- A slice of entries that came in, opened. -/
import Derived.Test.YbulkcuzuFmtAccepts
import Derived.Deep.SlicePairs
import Derived.Deep.Strs
import Derived.ProofKit
import Derived.ChangeOld
namespace Go.Proofs
namespace YbulkcuzuFmt
open Go.ChangeShapes Go.WideShapes Go.ChangeAt Go.RowKit Go.Deep
set_option linter.unusedVariables false

abbrev ED := ByteArray × Option Addr × Nat × Nat × Nat × Nat × (Nat → ByteArray)

/-- One entry that came in. -/
structure OneEnt (w : World) (a : Addr) (i : Nat) (r : ED) : Prop where
  key : w.cell? (a.add (i * 2)) = some (.string r.1)
  val : w.cell? (a.add (i * 2 + 1)) = some (.slice r.2.1 r.2.2.2.2.1 r.2.2.2.2.2.1)
  keyLen : r.1.size ≤ maxLen
  addr : 0 < r.2.2.2.2.1 → r.2.1 = some ⟨r.2.2.1, r.2.2.2.1, none⟩ ∧ r.2.2.1 < w.heap.size
  str : ∀ j, j < r.2.2.2.2.1 → w.cell? ⟨r.2.2.1, r.2.2.2.1 + j, none⟩ = some (.string (r.2.2.2.2.2.2 j)) ∧ (r.2.2.2.2.2.2 j).size ≤ maxLen

theorem one_open {H : Type} {enc : TypeId × Value → H} {w : World} {base : Nat} {spare : Nat → Bool} {held : Bool} {f0 f1 : Nat} {v0 v1 : Value} {x0 x1 : DataW H × List MemPlace} {a : Addr} {i : Nat}
    (c0 : w.cell? (a.add (i * 2)) = some v0) (c1 : w.cell? (a.add (i * 2 + 1)) = some v1)
    (h0 : DataW.trod enc Ybaf.prog w base spare held f0 9 [v0] = some x0) (h1 : DataW.trod enc Ybaf.prog w base spare held f1 23 [v1] = some x1) : ∃ r, OneEnt w a i r := by
  obtain ⟨s, e0, _, hs⟩ := DataW.trod_string Ybaf.underlying9 h0
  simp at e0
  subst e0
  rcases open_strs Ybaf.underlying23 Ybaf.underlying9 Ybaf.cells9 h1 with ⟨e1, _⟩ | ⟨b, len, cap, m, Sx, e1, _, hl, hm, hmm, _, hx⟩
  · simp at e1
    subst e1
    exact ⟨(s, none, 0, 0, 0, 0, fun _ => default), c0, c1, hs, fun h => absurd h (by simp), fun j hj => absurd hj (by simp)⟩
  · simp at e1
    subst e1
    have hlm : len ≤ m := by rw [hmm]; split <;> omega
    by_cases hz : len = 0
    · subst hz
      exact ⟨(s, some b, 0, 0, 0, cap, fun _ => default), c0, c1, hs, fun h => absurd h (by simp), fun j hj => absurd hj (by simp)⟩
    · obtain ⟨bb, off, spot⟩ := b
      have hspot : spot = none := by simpa [Addr.add] using World.cell?_spot (hx 0 (by omega)).1
      subst hspot
      refine ⟨(s, some ⟨bb, off, none⟩, bb, off, len, cap, Sx), c0, c1, hs, fun _ => ⟨rfl, ?_⟩, fun j hj => ?_⟩
      · have := World.block_lt_of_cell? w _ (hx 0 (by omega)).1
        simpa [Addr.add] using this
      · have hj' : j < len := hj
        have := hx j (by omega)
        rw [Addr.add_lit] at this
        exact this

theorem raw_open {H : Type} {enc : TypeId × Value → H} {w : World} {base : Nat} {spare : Nat → Bool} {held : Bool} {fuel : Nat} {ad : Option Addr} {n cap : Nat} {x : DataW H × List MemPlace}
    (h : DataW.trod enc Ybaf.prog w base spare held fuel 22 [.slice ad n cap] = some x) :
    ∃ b o K A AB AO L C S, Raw w ad b o n K A AB AO L C S ∧ (0 < n → b < w.heap.size) ∧ ∀ i, i < n → 0 < L i → AB i < w.heap.size := by
  by_cases h0 : n = 0
  · subst h0
    exact ⟨0, 0, fun _ => default, fun _ => none, fun _ => 0, fun _ => 0, fun _ => 0, fun _ => 0, fun _ _ => default, ⟨fun h => absurd h (by omega), fun i hi => absurd hi (by omega), fun i hi => absurd hi (by omega), fun i hi => absurd hi (by omega),
      fun i hi => absurd hi (by omega), fun i hi => absurd hi (by omega), fun i hi => absurd hi (by omega)⟩, fun h => absurd h (by omega), fun i hi => absurd hi (by omega)⟩
  rcases open_slice_pairs Ybaf.underlying22 Ybaf.underlying25 Ybaf.cells25 rfl rfl Ybaf.cells9 Ybaf.cells23 h with ⟨hcs, _⟩ | ⟨a, len, cap', m, k, V0, V1, D0, D1, P0, P1, hcs, _, hl, hm, hmm, _, hall⟩
  · simp at hcs
    exact absurd hcs.2.1 h0
  · simp at hcs
    obtain ⟨rfl, rfl, rfl⟩ := hcs
    have hlm : n ≤ m := by rw [hmm]; split <;> omega
    have each : ∀ i, i < n → ∃ r : ED, OneEnt w a i r := fun i hi => by
      obtain ⟨c0, c1, t0, t1⟩ := hall i (by omega)
      exact one_open c0 c1 t0 t1
    obtain ⟨r, hr⟩ := choose_lt each
    obtain ⟨b, off, spot⟩ := a
    have hspot : spot = none := by simpa [Addr.add] using World.cell?_spot (hr 0 (by omega)).key
    subst hspot
    refine ⟨b, off, fun i => (r i).1, fun i => (r i).2.1, fun i => (r i).2.2.1, fun i => (r i).2.2.2.1, fun i => (r i).2.2.2.2.1, fun i => (r i).2.2.2.2.2.1, fun i => (r i).2.2.2.2.2.2, ⟨fun _ => rfl, fun i hi => ?_, fun i hi => ?_, fun i hi => (hr i hi).keyLen,
      fun i hi h => ((hr i hi).addr h).1, fun i hi j hj => ((hr i hi).str j hj).1, fun i hi j hj => ((hr i hi).str j hj).2⟩, fun _ => ?_, fun i hi h => ((hr i hi).addr h).2⟩
    · have := (hr i hi).key
      rwa [Addr.add_lit] at this
    · have := (hr i hi).val
      rwa [Addr.add_lit] at this
    · have := World.block_lt_of_cell? w _ (hr 0 (by omega)).key
      simpa [Addr.add] using this
end YbulkcuzuFmt
end Go.Proofs
