/-
  'Rows.LawS4816BFindsSaid' PROVED: the guide's frame for a law, at a slice of structs, a uint64 and four uint8; the walks: YbulkcusgFinds.lean and what it imports.
-/
import Derived.Test.YbulkcusgRows
import Derived.Test.YbulkcusgFinds
import Derived.WalkKit
import Derived.ProofKit
import Derived.OpenShut
import Derived.ChangeOld
import Derived.Below
import Derived.Deep.Slices
namespace Go.Proofs.Ybulkcusg.lawS4816BFinds
open Go.ChangeShapes Go.WideShapes Go.ChangeAt Go.RowKit Go.Deep
set_option linter.unusedVariables false

theorem own : ownKnob Yba.prog.godebug = none := by kernel_rfl
theorem laidOut : laidOutB Yba.prog = true := by kernel_rfl
theorem cells26 : Yba.prog.cellsOf 26 = 5 := by kernel_rfl
theorem cells24 : Yba.prog.cellsOf 24 = 1 := by kernel_rfl
theorem cells5 : Yba.prog.cellsOf 5 = 1 := by kernel_rfl
theorem cells3 : Yba.prog.cellsOf 3 = 1 := by kernel_rfl

/-- One reader that came in. -/
def OneAt (w : World) (a : Addr) (i : Nat) (r : RD) : Prop :=
  w.cell? (a.add (i * 5)) = some (.int .i8 r.1) ∧ w.cell? (a.add (i * 5 + 1)) = some (.int .i8 r.2.1) ∧ w.cell? (a.add (i * 5 + 2)) = some (.int .u8 r.2.2.1) ∧ w.cell? (a.add (i * 5 + 3)) = some (.int .u8 r.2.2.2.1) ∧ w.cell? (a.add (i * 5 + 4)) = some (.int .i64 r.2.2.2.2) ∧
  (-128 ≤ r.1 ∧ r.1 ≤ 127) ∧ (-128 ≤ r.2.1 ∧ r.2.1 ≤ 127) ∧ (0 ≤ r.2.2.1 ∧ r.2.2.1 ≤ 255) ∧ (0 ≤ r.2.2.2.1 ∧ r.2.2.2.1 ≤ 255) ∧ -9223372036854775808 ≤ r.2.2.2.2 ∧ r.2.2.2.2 ≤ 9223372036854775807

theorem rows_open {H : Type} {enc : TypeId × Value → H} {w : World} {base : Nat} {spare : Nat → Bool} {held : Bool} {fuel : Nat} {a0 : Option Addr} {len cap : Nat} {x : DataW H × List MemPlace}
    (h : DataW.trod enc Yba.prog w base spare held fuel 22 [.slice a0 len cap] = some x) :
    len = 0 ∨ ∃ b off rs, a0 = some ⟨b, off, none⟩ ∧ RsAt w b off len rs ∧ ∀ i, i < len → -9223372036854775808 ≤ (rs i).2.2.2.2 ∧ (rs i).2.2.2.2 ≤ 9223372036854775807 := by
  rcases open_slice Yba.underlying22 h with ⟨hcs, _⟩ | ⟨a, len', cap', m, n, D, Pl, hcs, _, hl, hm, hmm, _, hx⟩
  · simp at hcs
    exact .inl hcs.2.1
  · simp at hcs
    obtain ⟨rfl, rfl, rfl⟩ := hcs
    by_cases h0 : len = 0
    · exact .inl h0
    right
    have hlm : len ≤ m := by rw [hmm]; split <;> omega
    rw [cells26] at hx
    have each : ∀ i, i < len → ∃ r : RD, OneAt w a i r := by
      intro i hi
      obtain ⟨cs', h1, h2⟩ := hx i (by omega)
      obtain ⟨_, hlen, hcell⟩ := World.cells?_some h1
      obtain ⟨xs, k, _, _, _, hxl, hf⟩ := DataW.trod_struct Yba.underlying26 h2
      match xs, hxl, cs', hlen with
      | [y0, y1, y2, y3, y4], _, [v0, v1, v2, v3, v4], _ =>
        have g0 := hf 0 _ rfl
        have g1 := hf 1 _ rfl
        have g2 := hf 2 _ rfl
        have g3 := hf 3 _ rfl
        have g4 := hf 4 _ rfl
        simp [cells24, cells5, cells3] at g0 g1 g2 g3 g4
        obtain ⟨x0, e0, _, w0⟩ := DataW.trod_int Yba.underlying24 g0
        obtain ⟨x1, e1, _, w1⟩ := DataW.trod_int Yba.underlying24 g1
        obtain ⟨x2, e2, _, w2⟩ := DataW.trod_int Yba.underlying5 g2
        obtain ⟨x3, e3, _, w3⟩ := DataW.trod_int Yba.underlying5 g3
        obtain ⟨x4, e4, _, w4⟩ := DataW.trod_int Yba.underlying3 g4
        simp at e0 e1 e2 e3 e4
        subst e0 e1 e2 e3 e4
        have c0 := hcell 0 (by omega)
        have c1 := hcell 1 (by omega)
        have c2 := hcell 2 (by omega)
        have c3 := hcell 3 (by omega)
        have c4 := hcell 4 (by omega)
        rw [add_add] at c0 c1 c2 c3 c4
        simp at c0 c1 c2 c3 c4
        exact ⟨(x0, x1, x2, x3, x4), c0, c1, c2, c3, c4, bounds_i8 w0, bounds_i8 w1, bounds_u8 w2, bounds_u8 w3, bounds_i64 w4⟩
    obtain ⟨rs, hrs⟩ := choose_lt each
    obtain ⟨b, off, spot⟩ := a
    have hspot : spot = none := by simpa [Addr.add] using World.cell?_spot (hrs 0 (by omega)).1
    subst hspot
    refine ⟨b, off, rs, rfl, ⟨?_, fun i hi => ?_⟩, fun i hi => (hrs i hi).2.2.2.2.2.2.2.2.2⟩
    · have := World.block_lt_of_cell? w _ (hrs 0 (by omega)).1
      simpa [Addr.add] using this
    · obtain ⟨c0, c1, c2, c3, c4, p0, p1, p2, p3, _⟩ := hrs i hi
      rw [Addr.add_lit] at c0 c1 c2 c3 c4
      exact ⟨c0, c1, c2, c3, c4, p0.1, p0.2, p1.1, p1.2, p2.1, p2.2, p3.1, p3.2⟩

theorem walk (a0 : Option Addr) (len cap : Nat) (sel e0 e1 e2 e3 : Int) (w : World) (hs : 0 ≤ sel ∧ sel ≤ 18446744073709551615) (h0 : 0 ≤ e0 ∧ e0 ≤ 255) (h1 : 0 ≤ e1 ∧ e1 ≤ 255) (h2 : 0 ≤ e2 ∧ e2 ≤ 255) (h3 : 0 ≤ e3 ∧ e3 ≤ 255)
    (hr : len = 0 ∨ ∃ b off rs, a0 = some ⟨b, off, none⟩ ∧ RsAt w b off len rs ∧ ∀ i, i < len → -9223372036854775808 ≤ (rs i).2.2.2.2 ∧ (rs i).2.2.2.2 ≤ 9223372036854775807) :
    Calls Yba.prog 3 #[.slice a0 len cap, .int .u64 sel, .int .u8 e0, .int .u8 e1, .int .u8 e2, .int .u8 e3] w fun e w' => e = .returned (.bool true) ∧ Below w.heap.size w w' := by
  rcases hr with rfl | ⟨b, off, rs, rfl, hr, hat⟩
  · exact finds_none a0 cap sel e0 e1 e2 e3 w
  · by_cases hn : 1024 < len
    · exact finds_long _ len cap sel e0 e1 e2 e3 w hn
    · by_cases hz : len = 0
      · subst hz
        exact finds_none _ cap sel e0 e1 e2 e3 w
      · exact finds_some b off len cap rs sel e0 e1 e2 e3 w (by omega) (by omega) hs.1 hs.2 h0 h1 h2 h3 hr hat

set_option maxRecDepth 100000 in
theorem lifted (os : Os) (started : os.Started) (H : Type) (enc : TypeId × Value → H) :
    ReturnsInHanded {} Yba.checked os 3 .any (Rows.lawS4816BFindsSpec.pre6 enc Yba.prog Yba.f3 Rows.lawS4816BFindsRow.domain false) (Rows.lawS4816BFindsSpec.post enc Yba.prog Yba.f3 false true false false) := by
  refine returnsInHanded_of_change (C := Yba.checked) own started (by kernel_rfl) Yba.func3
    (ChangeSpec.witness6 (enc := enc) (C := Yba.checked) false ⟨#[], #[.slice none 0 0, .int .u64 0, .int .u8 0, .int .u8 0, .int .u8 0, .int .u8 0], []⟩ 8 (by kernel_rfl) (by kernel_rfl) (by kernel_rfl) (by kernel_rfl)) ?_
  intro W base args ds gs before hval0 hW hcnd _
  have hval : ∀ (j : Nat) t v, Yba.f3.params[j]? = some t → args[j]? = some v → Value.okWide Yba.prog W .any base t v := hval0
  have hW' := hW
  obtain ⟨p, q, hA0, hV, rfl, hfz, hnd⟩ := hW
  have hA : DataW.TrodAll enc Yba.prog W 0 (fun _ => true) true Yba.f3.params.toList args.toList ds p := hA0
  rw [Yba.params3] at hA hval
  obtain ⟨v0, vs0, d0, ds0, p0, q0, hargs, rfl, rfl, h0, r0⟩ := trodAll_cons hA
  obtain ⟨v1, vs1, d1, ds1, p1, q1, rfl, rfl, rfl, h1, r1⟩ := trodAll_cons r0
  obtain ⟨v2, vs2, d2, ds2, p2, q2, rfl, rfl, rfl, h2, r2⟩ := trodAll_cons r1
  obtain ⟨v3, vs3, d3, ds3, p3, q3, rfl, rfl, rfl, h3, r3⟩ := trodAll_cons r2
  obtain ⟨v4, vs4, d4, ds4, p4, q4, rfl, rfl, rfl, h4, r4⟩ := trodAll_cons r3
  obtain ⟨v5, vs5, d5, ds5, p5, q5, rfl, rfl, rfl, h5, r5⟩ := trodAll_cons r4
  obtain ⟨rfl, rfl, rfl⟩ := trodAll_nil r5
  obtain rfl : args = #[v0, v1, v2, v3, v4, v5] := by cases args; simp_all
  obtain ⟨rfl, rfl⟩ := trodVars_none hV
  obtain ⟨a0, len0, cap0, rfl⟩ := okWide_slice Yba.underlying22 (hval 0 22 v0 rfl rfl)
  have k0 := h0
  have lt0 : ∀ x ∈ p0, x.block < W.heap.size := by obtain ⟨m, hm⟩ := k0; exact DataW.trod_lt m _ _ _ hm
  have hrow : len0 = 0 ∨ ∃ b off rs, a0 = some ⟨b, off, none⟩ ∧ RsAt W b off len0 rs ∧ ∀ i, i < len0 → -9223372036854775808 ≤ (rs i).2.2.2.2 ∧ (rs i).2.2.2.2 ≤ 9223372036854775807 := by
    obtain ⟨fuel, hf⟩ := h0
    exact rows_open (by simpa [Value.cells] using hf)
  have k1 := h1
  have k2 := h2
  have k3 := h3
  have k4 := h4
  have k5 := h5
  have lt1 : ∀ x ∈ p1, x.block < W.heap.size := by obtain ⟨m, hm⟩ := k1; exact DataW.trod_lt m _ _ _ hm
  have lt2 : ∀ x ∈ p2, x.block < W.heap.size := by obtain ⟨m, hm⟩ := k2; exact DataW.trod_lt m _ _ _ hm
  have lt3 : ∀ x ∈ p3, x.block < W.heap.size := by obtain ⟨m, hm⟩ := k3; exact DataW.trod_lt m _ _ _ hm
  have lt4 : ∀ x ∈ p4, x.block < W.heap.size := by obtain ⟨m, hm⟩ := k4; exact DataW.trod_lt m _ _ _ hm
  have lt5 : ∀ x ∈ p5, x.block < W.heap.size := by obtain ⟨m, hm⟩ := k5; exact DataW.trod_lt m _ _ _ hm
  obtain ⟨z1, rfl, rfl, rfl, wz1⟩ := open_int Yba.underlying23 (hval 1 23 v1 rfl rfl) h1
  obtain ⟨z2, rfl, rfl, rfl, wz2⟩ := open_int Yba.underlying5 (hval 2 5 v2 rfl rfl) h2
  obtain ⟨z3, rfl, rfl, rfl, wz3⟩ := open_int Yba.underlying5 (hval 3 5 v3 rfl rfl) h3
  obtain ⟨z4, rfl, rfl, rfl, wz4⟩ := open_int Yba.underlying5 (hval 4 5 v4 rfl rfl) h4
  obtain ⟨z5, rfl, rfl, rfl, wz5⟩ := open_int Yba.underlying5 (hval 5 5 v5 rfl rfl) h5
  clear hA0 hval0
  refine (walk a0 len0 cap0 z1 z2 z3 z4 z5 W (bounds_u64 wz1) (bounds_u8 wz2) (bounds_u8 wz3) (bounds_u8 wz4) (bounds_u8 wz5) hrow).mono fun e W' ⟨he, bel⟩ => ?_
  subst he
  exact ⟨_, rfl, _, _, _, [], _, [], hW', trodAll_mk1 (shut_bool Yba.underlying4 _), (trodAll_cons_mk (Below.trod laidOut (by kernel_rfl) (of_decide_eq_true (by kernel_rfl)) k0 bel lt0) (trodAll_cons_mk (Below.trod laidOut (by kernel_rfl) (of_decide_eq_true (by kernel_rfl)) k1 bel lt1)
    (trodAll_cons_mk (Below.trod laidOut (by kernel_rfl) (of_decide_eq_true (by kernel_rfl)) k2 bel lt2) (trodAll_cons_mk (Below.trod laidOut (by kernel_rfl) (of_decide_eq_true (by kernel_rfl)) k3 bel lt3) (trodAll_cons_mk (Below.trod laidOut (by kernel_rfl) (of_decide_eq_true (by kernel_rfl)) k4 bel lt4)
    (trodAll_cons_mk (Below.trod laidOut (by kernel_rfl) (of_decide_eq_true (by kernel_rfl)) k5 bel lt5) trodAll_mk0)))))), rfl, bel.frame _, fun h => by cases h⟩

theorem over : Rows.lawS4816BFindsRow.holds Yba.pinned (OpenSpec.ofChange Rows.lawS4816BFindsSpec) :=
  OpenClaim.holds_of_wide 3 Yba.f3 rfl rfl rfl rfl rfl rfl rfl ⟨rfl, rfl, rfl, rfl, rfl⟩ rfl rfl rfl rfl rfl (by kernel_rfl) Yba.func3 (by kernel_rfl)
    (of_decide_eq_true (by kernel_rfl)) (by unfold Func.isWrapper; first | (rw [if_pos (by decide +kernel)]; kernel_rfl) | (rw [if_neg (by decide +kernel)]; exact ⟨rfl, rfl⟩))
    (fun os started H enc _ => lifted os started H enc)

/-- THE STATEMENT -/
theorem proved : Rows.LawS4816BFindsSaid := over
end Go.Proofs.Ybulkcusg.lawS4816BFinds
