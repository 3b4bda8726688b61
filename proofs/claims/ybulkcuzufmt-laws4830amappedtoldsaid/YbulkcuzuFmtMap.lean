/- zzs4830amap (function 6): some string, not longer than its bytes. -/
import Derived.Test.YbulkcuzuFmtRows
import Derived.WalkKit
import Derived.ProofKit
import Derived.Laws.BytesArg
import Derived.OwnWalk
import Derived.Deep.DeepCutAuto
namespace Go.Proofs.YbulkcuzuFmt
open Go.RowKit
set_option linter.unusedVariables false

/-- n bytes from an address on. -/
def BytesAt (w : World) (ad : Option Addr) (n : Nat) : Prop :=
  0 < n → ∃ b o, ad = some ⟨b, o, none⟩ ∧ b < w.heap.size ∧ ∀ i, i < n → ∃ x : Nat, x < 256 ∧ w.cell? ⟨b, o + i, none⟩ = some (.int .u8 x)

theorem Ybaf.info5 : (Ybaf.prog.info? 5).map (fun i => (i.zero, i.size, i.bytes)) = some (some (.int .u8 0), 1, 1) := by kernel_rfl
def bytesOf (xs : List Int) : Obj := .cells (xs.map (Value.int .u8)).toArray 5
theorem make_bytes (n : Nat) (hn : n ≤ 1024) (w : World) : (Instr.makeSlice 27 (.int .i64 n) (.int .i64 n)).run Ybaf.prog w = .ok (.slice (some ⟨w.heap.size, 0, none⟩) n n) (w.alloc (bytesOf (List.replicate n 0))) := by
  obtain ⟨i0, hi, hz0, hz1, hz2⟩ := info_parts Ybaf.info5
  have := run_make (P := Ybaf.prog) w 27 5 i0 _ Ybaf.underlying27 hi hz0 .i64 .i64 n n (by omega) (Int.le_refl _) (by rw [hz2]; omega) (by omega)
  rw [hz1] at this
  have e : madeCells #[Value.int .u8 0] (n * 1) = ((List.replicate n 0).map (Value.int .u8)).toArray := by
    apply Array.ext
    · simp [madeCells]
    · intro i h1 h2
      simp [madeCells, Nat.mod_one]
  unfold bytesOf
  rw [← e]
  simpa [Value.cells] using this

theorem strOf_size (xs : List Int) : (strOfNums xs).size = xs.length := by simp [strOfNums, ByteArray.size]

theorem set_bytes {w : World} {g k : Nat} {xs : List Int} {v : Int} (h : w.heap[g]? = some (bytesOf xs)) : (w.setCell ⟨g, k, none⟩ (.int .u8 v)).heap[g]? = some (bytesOf (xs.set k v)) := by
  unfold bytesOf at h ⊢
  rw [heap_setCell_same w g k _ 5 (.int .u8 v) h]
  simp

theorem new_row (w : World) (o : Obj) : (w.alloc o).heap[w.heap.size]? = some o := by
  show (w.heap.push o)[w.heap.size]? = some o
  simp

set_option maxHeartbeats 1000000 in
theorem map6 (ad : Option Addr) (n cap : Nat) (w : World) (hn : n ≤ 1024) (hB : BytesAt w ad n) :
    Calls Ybaf.prog 6 #[.slice ad n cap] w fun e w' => (∃ s : ByteArray, s.size ≤ 1024 ∧ e = .returned (.string s)) ∧ Below w.heap.size w w' := by
  have hmk := make_bytes n hn
  go_enter Ybaf.func6, Ybaf.ntmps6
  go_wp2
  go_loopw [4] (fun i wr => ∃ k : Nat, k ≤ n ∧ i = .int .i64 k ∧ Below w.heap.size w wr ∧ ∃ xs : List Int, xs.length = n ∧ wr.heap[w.heap.size]? = some (bytesOf xs)) (fun i _ => n - (intOf i).toNat)
  case atStart => exact ⟨0, Nat.zero_le _, rfl, (Below.refl _ _).alloc (Nat.le_refl _) _, List.replicate n 0, by simp, new_row _ _⟩
  case round =>
    obtain ⟨k, hk, rfl, hbel, xs, hxl, hrow⟩ := hrel
    by_cases hlt : k < n
    · obtain ⟨b, o, had, hb, hx⟩ := hB (by omega)
      subst had
      obtain ⟨x, hx1, hx2⟩ := hx k hlt
      have gx : wr.cell? ⟨b, o + k, none⟩ = some (.int .u8 x) := (hbel.cell (p := ⟨b, o + k, none⟩) hb).trans hx2
      have gr : wr.cell? ⟨w.heap.size, k, none⟩ = some (.int .u8 (xs.getD k 0)) := by
        rw [cell_of_row wr _ _ _ _ _ hrow]
        simp [List.getD, List.getElem?_eq_getElem (show k < xs.length by omega)]
      have gf : wr.frozen? ⟨w.heap.size, k, none⟩ = false := frozen_of_row wr _ _ _ _ hrow
      have hw1 : IntKind.i64.wrap (x : Int) = (x : Int) := Go.IntWalk.i64_in _ (by omega)
      have ht : ((x : Int).tmod 13) = ((x % 13 : Nat) : Int) := by
        rw [Int.tmod_eq_emod_of_nonneg (by omega)]; omega
      have hm : x % 13 < 13 := Nat.mod_lt _ (by omega)
      go_wp2
      go_roundw
      case rel =>
        refine ⟨k + 1, by omega, by go_num, hbel.setCell (Nat.le_refl _) _, _, ?_, set_bytes hrow⟩
        rw [List.length_set]
        exact hxl
      case measure => simp [intOf]; omega
    · have hcv := run_convert_bytes_arg (P := Ybaf.prog) wr 27 5 Ybaf.underlying27 Ybaf.underlying5 w.heap.size 0 n n xs hxl (fun i hi => (by
        rw [cell_of_row wr _ _ _ _ _ hrow]
        simp [List.getD, List.getElem?_eq_getElem (show i < xs.length by omega)])) 9 Ybaf.underlying9
      go_wp2
      go_ret
      exact ⟨⟨_, by rw [strOf_size]; omega, rfl⟩, hbel⟩
end Go.Proofs.YbulkcuzuFmt
