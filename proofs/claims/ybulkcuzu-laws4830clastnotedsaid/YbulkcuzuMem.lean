/- movedIn in memory, and the walks of its methods: holdsValue (4), start (5), add (6), stop (7). ONE GOROUTINE, THE LOCK FREE. After the guide's worked RegWalks.lean. -/
import Derived.Test.YbulkcuzuRows
import Derived.Test.YbulkcuzuLocks
import Derived.Conc.MuLone
import Derived.Maps.OwnSet
import Derived.Maps.Views
import Derived.WalkKit
import Derived.WalkSpells
import Derived.ProofKit
import Derived.Laws.Rows
import Derived.Deep.DeepCutAuto
namespace Go.Proofs.Ybulkcuzu
open Go.RowKit Go.Maps
open Go.MuLone
set_option linter.unusedVariables false

theorem law9 : Keyed Yba.prog 9 := string_keyed Yba.underlying9
theorem zero4 (w : World) : (zeroValue 4).run Yba.prog w = .ok (.bool false) w := by kernel_rfl

/-- The record, its lock free. -/
def Rec (w : World) (g : Nat) (mp : Option Nat) (v : Int) : Prop := w.heap[g]? = some (.cells #[.int .i32 0, .int .u32 0, .map mp, .int .u64 v] 38 (0, 0))

theorem Rec.cells {w : World} {g : Nat} {mp : Option Nat} {v : Int} (h : Rec w g mp v) :
    w.cell? ⟨g, 0, none⟩ = some (.int .i32 0) ∧ w.cell? ⟨g, 2, none⟩ = some (.map mp) ∧ w.cell? ⟨g, 3, none⟩ = some (.int .u64 v) ∧ ∀ j, w.frozen? ⟨g, j, none⟩ = false :=
  ⟨cell_of_row w g 0 _ _ _ h, cell_of_row w g 2 _ _ _ h, cell_of_row w g 3 _ _ _ h, fun j => frozen_of_row w g j _ _ h⟩

theorem Rec.lt {w : World} {g : Nat} {mp : Option Nat} {v : Int} (h : Rec w g mp v) : g < w.heap.size := by
  rcases Nat.lt_or_ge g w.heap.size with h' | h'
  · exact h'
  · unfold Rec at h; rw [Array.getElem?_eq_none h'] at h; cases h

theorem grown_set {w : World} {g j : Nat} {u : Value} : w.grownBy (w.setCell ⟨g, j, none⟩ u) (some g) :=
  ⟨rfl, rfl, rfl, by simp [World.setCell], fun i _ hi => Below.heap_setCell w ⟨g, j, none⟩ u i (fun e => hi (by rw [e]))⟩

/-- The lock taken and let go: nothing has turned. -/
theorem lock_round {w : World} {g : Nat} {mp : Option Nat} {v : Int} (h : Rec w g mp v) :
    Rec ((w.setCell ⟨g, 0, none⟩ (.int .i32 1)).setCell ⟨g, 0, none⟩ (.int .i32 0)) g mp v ∧ w.grownBy ((w.setCell ⟨g, 0, none⟩ (.int .i32 1)).setCell ⟨g, 0, none⟩ (.int .i32 0)) (some g) := by
  refine ⟨?_, World.grownBy.andThen grown_set grown_set (fun j hj => by cases hj; exact Or.inr rfl)⟩
  have e1 := heap_setCell_same w g 0 _ 38 (.int .i32 1) h
  exact heap_setCell_same _ g 0 _ 38 (.int .i32 0) e1

theorem lookup_bool {w : World} {B n : Nat} {D : DataW Unit} (h : w.ownsMap Yba.prog 9 (plainElem Yba.prog 4) B n D) {x : ByteArray} (hx : x.size ≤ maxLen) :
    ∃ c, (Instr.lookup 34 (.map (some B)) (.string x) false).run Yba.prog w = .ok (.bool c) w ∧ D.atKey (.string x.data.toList) (.lit (.bool false)) = .lit (.bool c) := by
  obtain ⟨v, ps, hrun, hv⟩ := h.lookup law9 Yba.underlying34 (zero4 w) (plainElem_bool Yba.underlying4 false) (WideMaps.keyOf_string_mk (P := Yba.prog) Yba.underlying9 hx)
  have : ∃ c, v = .bool c ∧ D.atKey (.string x.data.toList) (.lit (.bool false)) = .lit (.bool c) := by
    unfold plainElem at hv
    rw [Yba.underlying4] at hv
    cases v <;> simp at hv
    exact ⟨_, rfl, hv.1.symm⟩
  obtain ⟨c, rfl, hc⟩ := this
  exact ⟨c, hrun, hc⟩

set_option maxHeartbeats 1600000 in
theorem hold_nil (g : Nat) (x : ByteArray) (v : Int) (w : World) (hR : Rec w g none v) (hx : x.size ≤ maxLen) :
    Calls Yba.prog 4 #[.pointer (some ⟨g, 0, none⟩), .string x] w fun e w' => e = .returned (.bool false) ∧ Rec w' g none v ∧ w.grownBy w' (some g) := by
  obtain ⟨c0, c2, c3, fz⟩ := hR.cells
  have f0 := fz 0
  have hrun := look_nil (w := w.setCell ⟨g, 0, none⟩ (.int .i32 1)) false law9 Yba.underlying34 (zero4 _) (WideMaps.keyOf_string_mk (P := Yba.prog) Yba.underlying9 hx)
  go_enter_defers Yba.func4, Yba.ntmps4
  go_wp2_with (go_at_call 8; refine (lock_free Yba.muLib ⟨g, 0, none⟩ _ c0 f0).mono ?_; rintro e w' ⟨rfl, rfl⟩)
  refine leaves_cons (f := 9) (args := #[.pointer (some ⟨g, 0, none⟩)]) (by simp) (by simp [go_sem]) ?_
  refine (unlock_deferred Yba.muLib ⟨g, 0, none⟩ .returning _ ?_ ?_).mono ?_
  · exact World.cell?_setCell_same w ⟨g, 0, none⟩ (.int .i32 1) c0
  · simp [f0]
  rintro e u' w'' ⟨rfl, rfl, rfl⟩
  exact ⟨_, results_tmp rfl _ _ _, rfl, lock_round hR⟩

set_option maxHeartbeats 1600000 in
theorem hold_map (g B n : Nat) (D : DataW Unit) (x : ByteArray) (v : Int) (w : World) (hR : Rec w g (some B) v) (hBg : B ≠ g) (hown : w.ownsMap Yba.prog 9 (plainElem Yba.prog 4) B n D) (hx : x.size ≤ maxLen) :
    Calls Yba.prog 4 #[.pointer (some ⟨g, 0, none⟩), .string x] w fun e w' => ∃ c, e = .returned (.bool c) ∧ D.atKey (.string x.data.toList) (.lit (.bool false)) = .lit (.bool c) ∧ Rec w' g (some B) v ∧ w.grownBy w' (some g) := by
  obtain ⟨c0, c2, c3, fz⟩ := hR.cells
  have f0 := fz 0
  have hown1 := hown.setCell (a := ⟨g, 0, none⟩) hBg (.int .i32 1)
  obtain ⟨c, hrun, hat⟩ := lookup_bool hown1 hx
  have HAT : Hid _ := hat
  clear hat
  go_enter_defers Yba.func4, Yba.ntmps4
  go_wp2_with (go_at_call 8; refine (lock_free Yba.muLib ⟨g, 0, none⟩ _ c0 f0).mono ?_; rintro e w' ⟨rfl, rfl⟩)
  refine leaves_cons (f := 9) (args := #[.pointer (some ⟨g, 0, none⟩)]) (by simp) (by simp [go_sem]) ?_
  refine (unlock_deferred Yba.muLib ⟨g, 0, none⟩ .returning _ ?_ ?_).mono ?_
  · exact World.cell?_setCell_same w ⟨g, 0, none⟩ (.int .i32 1) c0
  · simp [f0]
  rintro e u' w'' ⟨rfl, rfl, rfl⟩
  exact ⟨_, results_tmp rfl _ _ _, c, rfl, HAT.out, lock_round hR⟩

theorem q34 : ∀ (w : World) (r : Option Nat), (binOp .neq 34 (.map r) (.map none)).run Yba.prog w = .ok (.bool (!r.isNone)) w := fun w r => run_neq_map_nil w _ _ _ r Yba.underlying34

set_option maxHeartbeats 1600000 in
theorem add_nil (g : Nat) (x : ByteArray) (y : Bool) (v : Int) (w : World) (hR : Rec w g none v) :
    Calls Yba.prog 6 #[.pointer (some ⟨g, 0, none⟩), .string x, .bool y] w fun e w' => e = .returned (.tuple #[]) ∧ Rec w' g none v ∧ w.grownBy w' (some g) := by
  obtain ⟨c0, c2, c3, fz⟩ := hR.cells
  have f0 := fz 0
  have q := q34
  go_enter_defers Yba.func6, Yba.ntmps6
  go_wp2_with (go_at_call 8; refine (lock_free Yba.muLib ⟨g, 0, none⟩ _ c0 f0).mono ?_; rintro e w' ⟨rfl, rfl⟩)
  refine leaves_cons (f := 9) (args := #[.pointer (some ⟨g, 0, none⟩)]) (by simp) (by simp [go_sem]) ?_
  refine (unlock_deferred Yba.muLib ⟨g, 0, none⟩ .returning _ ?_ ?_).mono ?_
  · exact World.cell?_setCell_same w ⟨g, 0, none⟩ (.int .i32 1) c0
  · simp [f0]
  rintro e u' w'' ⟨rfl, rfl, rfl⟩
  exact ⟨_, results_none rfl _ _ _, rfl, lock_round hR⟩

set_option maxHeartbeats 1600000 in
theorem add_map (g B n : Nat) (D : DataW Unit) (x : ByteArray) (y : Bool) (v : Int) (w : World) (hR : Rec w g (some B) v) (hgB : g < B) (hown : w.ownsMap Yba.prog 9 (plainElem Yba.prog 4) B n D) (hn : n < maxLen) (hx : x.size ≤ maxLen) :
    Calls Yba.prog 6 #[.pointer (some ⟨g, 0, none⟩), .string x, .bool y] w fun e w' => e = .returned (.tuple #[]) ∧ Rec w' g (some B) v ∧ Below g w w' ∧ w'.ownsMap Yba.prog 9 (plainElem Yba.prog 4) B (n + 1) (D.put (.string x.data.toList) (.lit (.bool y))) := by
  obtain ⟨c0, c2, c3, fz⟩ := hR.cells
  have f0 := fz 0
  have q := q34
  have hBg : B ≠ g := by omega
  have hkey := WideMaps.keyOf_string_mk (P := Yba.prog) Yba.underlying9 hx
  have hown1 := hown.setCell (a := ⟨g, 0, none⟩) hBg (.int .i32 1)
  go_enter_defers Yba.func6, Yba.ntmps6
  go_wp2_with (first
    | (go_at_call 8; refine (lock_free Yba.muLib ⟨g, 0, none⟩ _ c0 f0).mono ?_; rintro e w' ⟨rfl, rfl⟩)
    | (at_mapUpdate; refine wpList_mapUpdate_in _ rfl _ _ _ 34 rfl 9 4 law9 Yba.underlying34 _ B n D rfl hown1 hn _ _ _ rfl rfl hkey _ [] (plainElem_bool Yba.underlying4 y) ?_; intro w1 hown2 hturn1))
  have e1 := heap_setCell_same w g 0 _ 38 (.int .i32 1) hR
  have hgl : g < (w.setCell ⟨g, 0, none⟩ (.int .i32 1)).heap.size := by have := hR.lt; simpa [World.setCell] using this
  have e2 := (hturn1.grown.block g hgl (fun e => hBg (Option.some.inj e).symm)).trans e1
  refine leaves_cons (f := 9) (args := #[.pointer (some ⟨g, 0, none⟩)]) (by simp) (by simp [go_sem]) ?_
  refine (unlock_deferred Yba.muLib ⟨g, 0, none⟩ .returning _ (cell_of_row w1 g 0 _ _ _ e2) (frozen_of_row w1 g 0 _ _ e2)).mono ?_
  rintro e u' w'' ⟨rfl, rfl, rfl⟩
  have e3 := heap_setCell_same w1 g 0 _ 38 (.int .i32 0) e2
  refine ⟨_, results_none rfl _ _ _, rfl, e3, ?_, hown2.setCell (a := ⟨g, 0, none⟩) hBg _⟩
  exact (((Below.refl g w).setCell (Nat.le_refl _) _).grown hturn1.grown (Nat.le_of_lt hgl) (fun j hj => by cases hj; omega)).setCell (Nat.le_refl _) _

set_option maxHeartbeats 1600000 in
theorem stop_any (g : Nat) (mp : Option Nat) (v : Int) (w : World) (hR : Rec w g mp v) :
    Calls Yba.prog 7 #[.pointer (some ⟨g, 0, none⟩)] w fun e w' => e = .returned (.tuple #[]) ∧ Rec w' g none v ∧ Below g w w' := by
  obtain ⟨c0, c2, c3, fz⟩ := hR.cells
  have f0 := fz 0
  have f2 := fz 2
  have e1 := heap_setCell_same w g 0 _ 38 (.int .i32 1) hR
  have e2 := heap_setCell_same _ g 2 _ 38 (.map none) e1
  go_enter_defers Yba.func7, Yba.ntmps7
  go_wp2_with (go_at_call 8; refine (lock_free Yba.muLib ⟨g, 0, none⟩ _ c0 f0).mono ?_; rintro e w' ⟨rfl, rfl⟩)
  refine leaves_cons (f := 9) (args := #[.pointer (some ⟨g, 0, none⟩)]) (by simp) (by simp [go_sem]) ?_
  refine (unlock_deferred Yba.muLib ⟨g, 0, none⟩ .returning _ (cell_of_row _ g 0 _ _ _ e2) (frozen_of_row _ g 0 _ _ e2)).mono ?_
  rintro e u' w'' ⟨rfl, rfl, rfl⟩
  have e3 := heap_setCell_same _ g 0 _ 38 (.int .i32 0) e2
  refine ⟨_, results_none rfl _ _ _, rfl, e3, ?_⟩
  exact (((Below.refl g w).setCell (Nat.le_refl _) _).setCell (Nat.le_refl _) _).setCell (Nat.le_refl _) _

/-- A slice of names that came in. -/
structure Helds (w : World) (ad : Option Addr) (b o n : Nat) (h : Nat → ByteArray) : Prop where
  at0 : 0 < n → ad = some ⟨b, o, none⟩
  cell : ∀ i, i < n → w.cell? ⟨b, o + i, none⟩ = some (.string (h i))
  len : ∀ i, i < n → (h i).size ≤ maxLen

set_option maxHeartbeats 2000000 in
theorem start_any (g : Nat) (mp : Option Nat) (v : Int) (ad : Option Addr) (b o n cap : Nat) (h : Nat → ByteArray) (w : World) (hR : Rec w g mp v) (hH : Helds w ad b o n h) (hb : 0 < n → b < g) (hn : n ≤ 1024) :
    Calls Yba.prog 5 #[.pointer (some ⟨g, 0, none⟩), .slice ad n cap, .int .u64 7] w fun e w' => e = .returned (.tuple #[]) ∧ Below g w w' ∧ ∃ (B : Nat) (D : DataW Unit), g < B ∧ Rec w' g (some B) 7 ∧ w'.ownsMap Yba.prog 9 (plainElem Yba.prog 4) B n D ∧ ∀ x, D.atKey (.string x) (.lit (.bool false)) = .lit (.bool false) := by
  obtain ⟨c0, c2, c3, fz⟩ := hR.cells
  have f0 := fz 0
  have f2 := fz 2
  have hgl := hR.lt
  have hmm := @run_makeMap Yba.prog
  go_enter_defers Yba.func5, Yba.ntmps5
  go_wp2_with (go_at_call 8; refine (lock_free Yba.muLib ⟨g, 0, none⟩ _ c0 f0).mono ?_; rintro e w' ⟨rfl, rfl⟩)
  go_loopw [21] (fun i wr => ∃ k : Nat, k ≤ n ∧ i = .int .i64 k ∧ Below g w wr ∧ wr.heap[g]? = some (.cells #[.int .i32 1, .int .u32 0, .map (some w.heap.size), .int .u64 v] 38 (0, 0)) ∧
      ∃ D : DataW Unit, wr.ownsMap Yba.prog 9 (plainElem Yba.prog 4) w.heap.size k D ∧ ∀ x, D.atKey (.string x) (.lit (.bool false)) = .lit (.bool false)) (fun i _ => n - (intOf i).toNat)
  case atStart =>
    have e1 := heap_setCell_same w g 0 _ 38 (.int .i32 1) hR
    have e2 := heap_setCell_same _ g 2 _ 38 (.map (some w.heap.size)) e1
    have hsz : ((w.setCell ⟨g, 0, none⟩ (.int .i32 1)).setCell ⟨g, 2, none⟩ (.map (some w.heap.size))).heap.size = w.heap.size := by simp [World.setCell]
    refine ⟨0, Nat.zero_le _, rfl, (((Below.refl g w).setCell (Nat.le_refl _) _).setCell (Nat.le_refl _) _).alloc (by rw [hsz]; omega) _, ?_, .map [], ?_, fun x => rfl⟩
    · rw [Below.heap_alloc _ _ _ (by rw [hsz]; exact hgl)]
      exact e2
    · have := World.ownsMap_made (H := Unit) ((w.setCell ⟨g, 0, none⟩ (.int .i32 1)).setCell ⟨g, 2, none⟩ (.map (some w.heap.size))) Yba.prog 9 (plainElem Yba.prog 4)
      rw [hsz] at this
      exact this
  case round =>
    obtain ⟨k, hk, rfl, hbel, hrec, D, hown, hat⟩ := hrel
    have d2 : wr.cell? ⟨g, 2, none⟩ = some (.map (some w.heap.size)) := cell_of_row wr g 2 _ _ _ hrec
    by_cases hlt : k < n
    · have had := hH.at0 (by omega)
      subst had
      have hc := (hbel.cell (p := ⟨b, o + k, none⟩) (hb (by omega))).trans (hH.cell k hlt)
      have hkey := WideMaps.keyOf_string_mk (P := Yba.prog) Yba.underlying9 (hH.len k hlt)
      have HAT : Hid (∀ x, D.atKey (.string x) (.lit (.bool false)) = .lit (.bool false)) := hat
      clear hat
      go_wp2_with (first
        | (at_mapUpdate; refine wpList_mapUpdate_in _ rfl _ _ _ 34 rfl 9 4 law9 Yba.underlying34 _ w.heap.size k D rfl hown (by unfold maxLen; omega) _ _ _ rfl rfl hkey _ [] (plainElem_bool Yba.underlying4 false) ?_; intro w1 hown2 hturn1; go_frame)
        | go_in)
      go_roundw
      case rel =>
        have hgw : g < wr.heap.size := Nat.lt_of_lt_of_le hgl hbel.size
        refine ⟨k + 1, by omega, by go_num, hbel.grown hturn1.grown (Nat.le_of_lt hgw) (fun j hj => by cases hj; omega), (hturn1.grown.block g hgw (fun e => by simp at e; omega)).trans hrec, _, hown2, fun x => ?_⟩
        have hmap : IsMap D := by obtain ⟨es, clock, _, _, _, rfl⟩ := hown; exact ⟨_, rfl⟩
        by_cases e : x = (h k).data.toList
        · subst e
          have hlit : WideAt.IsKeyLit (.string (h k).data.toList) := trivial
          exact atKey_put_same hmap hlit _ _
        · rw [atKey_put_other (fun h' => e (by simpa using h'))]
          exact HAT.out x
      case measure => simp [intOf]; omega
    · have d3 : wr.cell? ⟨g, 3, none⟩ = some (.int .u64 v) := cell_of_row wr g 3 _ _ _ hrec
      have z3 : wr.frozen? ⟨g, 3, none⟩ = false := frozen_of_row wr g 3 _ _ hrec
      have e2 := heap_setCell_same wr g 3 _ 38 (.int .u64 7) hrec
      go_wp2
      refine leaves_cons (f := 9) (args := #[.pointer (some ⟨g, 0, none⟩)]) (by simp) (by simp [go_sem]) ?_
      refine (unlock_deferred Yba.muLib ⟨g, 0, none⟩ .returning _ (cell_of_row _ g 0 _ _ _ e2) (frozen_of_row _ g 0 _ _ e2)).mono ?_
      rintro e u' w'' ⟨rfl, rfl, rfl⟩
      have e3 := heap_setCell_same _ g 0 _ 38 (.int .i32 0) e2
      obtain rfl : k = n := by omega
      refine ⟨_, results_none rfl _ _ _, rfl, (hbel.setCell (Nat.le_refl _) _).setCell (Nat.le_refl _) _, w.heap.size, D, hgl, e3, ?_, hat⟩
      exact (hown.setCell (a := ⟨g, 3, none⟩) (show w.heap.size ≠ g by omega) _).setCell (a := ⟨g, 0, none⟩) (show w.heap.size ≠ g by omega) _
end Go.Proofs.Ybulkcuzu
