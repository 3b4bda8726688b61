/-
  'Rows.LawS4830CLastNotedSaid' PROVED: the guide's frame for a law, at a slice of strings, a slice of structs, a string and a uint8; the walks: YbulkcuzuLast.lean and what it imports.
-/
import Derived.Test.YbulkcuzuRows
import Derived.Test.YbulkcuzuLast
import Derived.WalkKit
import Derived.ProofKit
import Derived.OpenShut
import Derived.ChangeOld
import Derived.Below
import Derived.Deep.Slices
import Derived.Deep.Strs
namespace Go.Proofs.Ybulkcuzu.lawS4830CLastNoted
open Go.ChangeShapes Go.WideShapes Go.ChangeAt Go.RowKit Go.Deep
open Go.ChangeMaps (open_string shut_string)
set_option linter.unusedVariables false

theorem own : ownKnob Yba.prog.godebug = none := by kernel_rfl
theorem laidOut : laidOutB Yba.prog = true := by kernel_rfl
theorem cells25 : Yba.prog.cellsOf 25 = 3 := by kernel_rfl
theorem cells9 : Yba.prog.cellsOf 9 = 1 := by kernel_rfl
theorem cells5 : Yba.prog.cellsOf 5 = 1 := by kernel_rfl
theorem cells4 : Yba.prog.cellsOf 4 = 1 := by kernel_rfl

theorem held_open {H : Type} {enc : TypeId × Value → H} {w : World} {base : Nat} {spare : Nat → Bool} {held : Bool} {fuel : Nat} {ad : Option Addr} {n cap : Nat} {x : DataW H × List MemPlace}
    (h : DataW.trod enc Yba.prog w base spare held fuel 22 [.slice ad n cap] = some x) : ∃ b o hd, Helds w ad b o n hd ∧ (0 < n → b < w.heap.size) := by
  by_cases h0 : n = 0
  · subst h0
    exact ⟨0, 0, fun _ => default, ⟨fun h => absurd h (by omega), fun i hi => absurd hi (by omega), fun i hi => absurd hi (by omega)⟩, fun h => absurd h (by omega)⟩
  rcases open_strs Yba.underlying22 Yba.underlying9 cells9 h with ⟨hcs, _⟩ | ⟨a, len, cap', m, Sx, hcs, _, hl, hm, hmm, _, hx⟩
  · simp at hcs
    exact absurd hcs.2.1 h0
  · simp at hcs
    obtain ⟨rfl, rfl, rfl⟩ := hcs
    have hlm : n ≤ m := by rw [hmm]; split <;> omega
    obtain ⟨b, off, spot⟩ := a
    have hspot : spot = none := by simpa [Addr.add] using World.cell?_spot (hx 0 (by omega)).1
    subst hspot
    refine ⟨b, off, Sx, ⟨fun _ => rfl, fun i hi => ?_, fun i hi => (hx i (by omega)).2⟩, fun _ => ?_⟩
    · have := (hx i (by omega)).1
      rwa [Addr.add_lit] at this
    · have := World.block_lt_of_cell? w _ (hx 0 (by omega)).1
      simpa [Addr.add] using this

/-- One step that came in. -/
def OneAt (w : World) (a : Addr) (i : Nat) (r : Nat × ByteArray × Bool) : Prop :=
  w.cell? (a.add (i * 3)) = some (.int .u8 r.1) ∧ w.cell? (a.add (i * 3 + 1)) = some (.string r.2.1) ∧ w.cell? (a.add (i * 3 + 2)) = some (.bool r.2.2) ∧ r.1 < 256 ∧ r.2.1.size ≤ maxLen

theorem script_open {H : Type} {enc : TypeId × Value → H} {w : World} {base : Nat} {spare : Nat → Bool} {held : Bool} {fuel : Nat} {ad : Option Addr} {n cap : Nat} {x : DataW H × List MemPlace}
    (h : DataW.trod enc Yba.prog w base spare held fuel 23 [.slice ad n cap] = some x) : ∃ b o op nm vl, Script w ad b o n op nm vl := by
  by_cases h0 : n = 0
  · subst h0
    exact ⟨0, 0, fun _ => 0, fun _ => default, fun _ => false, fun h => absurd h (by omega), fun h => absurd h (by omega), fun i hi => absurd hi (by omega), fun i hi => absurd hi (by omega), fun i hi => absurd hi (by omega), fun i hi => absurd hi (by omega), fun i hi => absurd hi (by omega)⟩
  rcases open_slice Yba.underlying23 h with ⟨hcs, _⟩ | ⟨a, len', cap', m, k, D, Pl, hcs, _, hl, hm, hmm, _, hx⟩
  · simp at hcs
    exact absurd hcs.2.1 h0
  · simp at hcs
    obtain ⟨rfl, rfl, rfl⟩ := hcs
    have hlm : n ≤ m := by rw [hmm]; split <;> omega
    rw [cells25] at hx
    have each : ∀ i, i < n → ∃ r : Nat × ByteArray × Bool, OneAt w a i r := by
      intro i hi
      obtain ⟨cs', h1, h2⟩ := hx i (by omega)
      obtain ⟨_, hlen, hcell⟩ := World.cells?_some h1
      obtain ⟨xs, k, _, _, _, hxl, hf⟩ := DataW.trod_struct Yba.underlying25 h2
      match xs, hxl, cs', hlen with
      | [y0, y1, y2], _, [v0, v1, v2], _ =>
        have g0 := hf 0 _ rfl
        have g1 := hf 1 _ rfl
        have g2 := hf 2 _ rfl
        simp [cells5, cells9, cells4] at g0 g1 g2
        obtain ⟨x0, e0, _, w0⟩ := DataW.trod_int Yba.underlying5 g0
        obtain ⟨x1, e1, _, w1⟩ := DataW.trod_string Yba.underlying9 g1
        obtain ⟨x2, e2, _⟩ := DataW.trod_bool Yba.underlying4 g2
        simp at e0 e1 e2
        subst e0 e1 e2
        have c0 := hcell 0 (by omega)
        have c1 := hcell 1 (by omega)
        have c2 := hcell 2 (by omega)
        rw [add_add] at c0 c1 c2
        simp at c0 c1 c2
        have hz := bounds_u8 w0
        obtain ⟨q, hq⟩ : ∃ q : Nat, x0 = (q : Int) := ⟨x0.toNat, by omega⟩
        subst hq
        exact ⟨(q, x1, x2), c0, c1, c2, by omega, w1⟩
    obtain ⟨r, hr⟩ := choose_lt each
    obtain ⟨b, off, spot⟩ := a
    have hspot : spot = none := by simpa [Addr.add] using World.cell?_spot (hr 0 (by omega)).1
    subst hspot
    refine ⟨b, off, fun i => (r i).1, fun i => (r i).2.1, fun i => (r i).2.2, fun _ => rfl, fun _ => ?_, fun i hi => ?_, fun i hi => ?_, fun i hi => ?_, fun i hi => (hr i hi).2.2.2.1, fun i hi => (hr i hi).2.2.2.2⟩
    · have := World.block_lt_of_cell? w _ (hr 0 (by omega)).1
      simpa [Addr.add] using this
    · have := (hr i hi).1
      rwa [Addr.add_lit] at this
    · have := (hr i hi).2.1
      rwa [Addr.add_lit] at this
    · have := (hr i hi).2.2.1
      rwa [Addr.add_lit] at this

set_option maxRecDepth 100000 in
theorem lifted (os : Os) (started : os.Started) (H : Type) (enc : TypeId × Value → H) :
    ReturnsInHanded {} Yba.checked os 3 .any (Rows.lawS4830CLastNotedSpec.pre6 enc Yba.prog Yba.f3 Rows.lawS4830CLastNotedRow.domain false) (Rows.lawS4830CLastNotedSpec.post enc Yba.prog Yba.f3 false true false false) := by
  refine returnsInHanded_of_change (C := Yba.checked) own started (by kernel_rfl) Yba.func3
    (ChangeSpec.witness6 (enc := enc) (C := Yba.checked) false ⟨#[], #[.slice none 0 0, .slice none 0 0, .string ⟨#[]⟩, .int .u8 0], []⟩ 8 (by kernel_rfl) (by kernel_rfl) (by kernel_rfl) (by kernel_rfl)) ?_
  intro W base args ds gs before hval0 hW hcnd _
  have hval : ∀ (j : Nat) t v, Yba.f3.params[j]? = some t → args[j]? = some v → Value.okWide Yba.prog W .any base t v := hval0
  have hW' := hW
  obtain ⟨p, q, hA0, hV, rfl, hfz, hnd⟩ := hW
  have hA : DataW.TrodAll enc Yba.prog W 0 (fun _ => true) true Yba.f3.params.toList args.toList ds p := hA0
  rw [Yba.params3] at hA hval
  obtain ⟨v0, vs0, d0, ds0, p0, q0, hargs, rfl, rfl, h0, r0⟩ := trodAll_cons hA
  obtain ⟨v1, vs1, d1, ds1, p1, q1, rfl, rfl, rfl, h1, r1⟩ := trodAll_cons r0
  obtain ⟨v2, vs2, d2, ds2, p2, q2, rfl, rfl, rfl, h2, r2⟩ := trodAll_cons r1
  obtain ⟨v3, vs3, d3, ds3, p3, q3, rfl, rfl, rfl, h3, r3⟩ := trodAll_cons r2
  obtain ⟨rfl, rfl, rfl⟩ := trodAll_nil r3
  obtain rfl : args = #[v0, v1, v2, v3] := by cases args; simp_all
  obtain ⟨rfl, rfl⟩ := trodVars_none hV
  obtain ⟨a0, len0, cap0, rfl⟩ := okWide_slice Yba.underlying22 (hval 0 22 v0 rfl rfl)
  obtain ⟨a1, len1, cap1, rfl⟩ := okWide_slice Yba.underlying23 (hval 1 23 v1 rfl rfl)
  have k0 := h0
  have k1 := h1
  have k2 := h2
  have k3 := h3
  have lt0 : ∀ x ∈ p0, x.block < W.heap.size := by obtain ⟨m, hm⟩ := k0; exact DataW.trod_lt m _ _ _ hm
  have lt1 : ∀ x ∈ p1, x.block < W.heap.size := by obtain ⟨m, hm⟩ := k1; exact DataW.trod_lt m _ _ _ hm
  have lt2 : ∀ x ∈ p2, x.block < W.heap.size := by obtain ⟨m, hm⟩ := k2; exact DataW.trod_lt m _ _ _ hm
  have lt3 : ∀ x ∈ p3, x.block < W.heap.size := by obtain ⟨m, hm⟩ := k3; exact DataW.trod_lt m _ _ _ hm
  obtain ⟨s2, rfl, rfl, rfl, ws2⟩ := open_string Yba.underlying9 (hval 2 9 v2 rfl rfl) h2
  obtain ⟨z3, rfl, rfl, rfl, wz3⟩ := open_int Yba.underlying5 (hval 3 5 v3 rfl rfl) h3
  have hz := bounds_u8 wz3
  obtain ⟨sel, hsel⟩ : ∃ sel : Nat, z3 = (sel : Int) := ⟨z3.toNat, by omega⟩
  subst hsel
  have hheld : ∃ b o hd, Helds W a0 b o len0 hd ∧ (0 < len0 → b < W.heap.size) := by
    obtain ⟨fuel, hf⟩ := h0
    exact held_open (cap := cap0) (by simpa [Value.cells] using hf)
  have hscr : ∃ b o op nm vl, Script W a1 b o len1 op nm vl := by
    obtain ⟨fuel, hf⟩ := h1
    exact script_open (cap := cap1) (by simpa [Value.cells] using hf)
  obtain ⟨bh, oh, hd, hHd, hbh⟩ := hheld
  obtain ⟨b, o, op, nm, vl, hS⟩ := hscr
  clear hA0 hval0
  refine (last3 a0 bh oh len0 cap0 hd a1 b o len1 cap1 op nm vl s2 sel W hHd hbh hS ws2 (by omega)).mono fun e W' ⟨he, bel⟩ => ?_
  subst he
  exact ⟨_, rfl, _, _, _, [], _, [], hW', trodAll_mk1 (shut_bool Yba.underlying4 _), (trodAll_cons_mk (Below.trod laidOut (by kernel_rfl) (of_decide_eq_true (by kernel_rfl)) k0 bel lt0) (trodAll_cons_mk (Below.trod laidOut (by kernel_rfl) (of_decide_eq_true (by kernel_rfl)) k1 bel lt1)
    (trodAll_cons_mk (Below.trod laidOut (by kernel_rfl) (of_decide_eq_true (by kernel_rfl)) k2 bel lt2) (trodAll_cons_mk (Below.trod laidOut (by kernel_rfl) (of_decide_eq_true (by kernel_rfl)) k3 bel lt3) trodAll_mk0)))), rfl, bel.frame _, fun h => by cases h⟩

theorem over : Rows.lawS4830CLastNotedRow.holds Yba.pinned (OpenSpec.ofChange Rows.lawS4830CLastNotedSpec) :=
  OpenClaim.holds_of_wide 3 Yba.f3 rfl rfl rfl rfl rfl rfl rfl ⟨rfl, rfl, rfl, rfl, rfl⟩ rfl rfl rfl rfl rfl (by kernel_rfl) Yba.func3 (by kernel_rfl)
    (of_decide_eq_true (by kernel_rfl)) (by unfold Func.isWrapper; first | (rw [if_pos (by decide +kernel)]; kernel_rfl) | (rw [if_neg (by decide +kernel)]; exact ⟨rfl, rfl⟩))
    (fun os started H enc _ => lifted os started H enc)

/-- THE STATEMENT -/
theorem proved : Rows.LawS4830CLastNotedSaid := over
end Go.Proofs.Ybulkcuzu.lawS4830CLastNoted
