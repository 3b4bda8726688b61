/- slices.Clone and slices.Compact at []int, as the law's walk wants them. -/
import Derived.Test.YbulkcusgConcatWalk
import Derived.Test.YbulkcusgShelf
namespace Go.Proofs.Ybulkcusg
open Go.RowKit Go.Sort

theorem below_putRow {B : Nat} {w0 w : World} (h : Below B w0 w) (enc : Int → Value) (q blk off : Nat) (d : Array Int) (hb : B ≤ blk) : Below B w0 (putRow enc (Sort.ahead w q) blk off d) := by
  refine h.trans ⟨rfl, rfl, rfl, by simp, fun k hk => ?_⟩
  simp only [putRow, mapBlock, Sort.ahead, Array.getElem?_modify]
  rw [if_neg (by omega)]

/-- The row of a fresh copy. -/
def CopyAt (B : Nat) (w : World) (a : Option Addr) (len cap : Nat) (A : List Int) : Prop :=
  len = 0 ∨ ∃ g, a = some ⟨g, 0, none⟩ ∧ B ≤ g ∧ len ≤ cap ∧ A.length = len ∧ Holds (Value.int .i64) w g 0 A.toArray

theorem copyAt_own {B : Nat} {w : World} {v : Value} {len : Nat} {A : List Int} (hA : A.length = len) (h : w.ownsRow B 3 1 v len (A.map (Value.int .i64))) : ∃ a cap, v = .slice a len cap ∧ CopyAt B w a len cap A := by
  rcases h.2 with ⟨rfl, rfl⟩ | ⟨g, cap, cur, rfl, hg, _, hcap, _⟩
  · exact ⟨none, 0, rfl, .inl rfl⟩
  · refine ⟨some ⟨g, 0, none⟩, cap, rfl, .inr ⟨g, rfl, hg, hcap, hA, fun j hj => ⟨?_, h.frozenAt _⟩⟩⟩
    have hj' : j < A.length := by simpa using hj
    rw [h.cellAt (0 + j) (by omega)]
    simp [hj', getElem!_pos]

theorem clone_any (a : Option Addr) (len cap : Nat) (A : List Int) (w : World) (hl : len ≤ 1024) (hA : A.length = len) (r : RowAt .i64 w a len A) :
    Calls Yba.prog 10 #[.slice a len cap] w fun e w' => ∃ a' cap', e = .returned (.slice a' len cap') ∧ Below w.heap.size w w' ∧ CopyAt w.heap.size w' a' len cap' A := by
  cases a with
  | none =>
    have h0 : len = 0 := by
      by_cases h : 0 < len
      · obtain ⟨_, _, h', _⟩ := r.2 0 h; exact absurd h' (by simp)
      · omega
    subst h0
    refine (Yba.slices_Clone_int_nil 0 cap w).mono ?_
    rintro e w' ⟨rfl, rfl⟩
    exact ⟨none, 0, rfl, Below.refl _ _, .inl rfl⟩
  | some x =>
    by_cases h0 : len = 0
    · subst h0
      refine (Yba.slices_Clone_int_zero x cap w).mono ?_
      rintro e w' ⟨v, rfl, ho, _, hb⟩
      have hA0 : A = [] := List.eq_nil_of_length_eq_zero hA
      subst hA0
      obtain ⟨a', cap', rfl, hc⟩ := copyAt_own (A := []) rfl ho
      exact ⟨a', cap', rfl, hb, hc⟩
    · obtain ⟨b, off, hx, _, _⟩ := r.2 0 (by omega)
      obtain rfl := Option.some.inj hx
      have hc : ∀ j, j < A.length → w.cell? ⟨b, off + j, none⟩ = some (.int .i64 (A.getD j 0)) := by
        intro j hj
        obtain ⟨b', off', hx', _, hcell⟩ := r.2 j (by omega)
        obtain ⟨rfl, rfl⟩ : b = b' ∧ off = off' := by simpa using hx'
        exact hcell
      refine (Yba.slices_Clone_int b off len cap A w (by omega) (by omega) hc).mono ?_
      rintro e w' ⟨v, rfl, ho, _, hb⟩
      rw [List.take_of_length_le (by omega)] at ho
      obtain ⟨a', cap', rfl, hc'⟩ := copyAt_own hA ho
      exact ⟨a', cap', rfl, hb, hc'⟩

theorem compact_len (A : List Int) (m : Nat) (hm : m ≤ A.length) : (Lib.compactUpTo A.toArray m).length = cnt A m := by
  induction m with
  | zero => rfl
  | succ m ih =>
    rw [Lib.compactUpTo_succ, List.length_append, ih (by omega), cnt.eq_2]
    congr 1
    have hm' : m < A.length := by omega
    have e1 : A.toArray[m]! = A.getD m 0 := by simp [List.getD, hm', getElem!_pos]
    by_cases h0 : m = 0
    · subst h0; simp [Lib.keeps]
    · have e2 : A.toArray[m - 1]! = A.getD (m - 1) 0 := by
        have : m - 1 < A.length := by omega
        simp [List.getD, this, getElem!_pos]
      unfold Lib.keeps
      rw [e1, e2]
      by_cases h : m = 0 ∨ A.getD m 0 ≠ A.getD (m - 1) 0
      · rw [if_pos h, if_pos (decide_eq_true h)]; rfl
      · rw [if_neg h, if_neg (by simpa using h)]; rfl

theorem compact_any (B : Nat) (a : Option Addr) (len cap : Nat) (A : List Int) (w : World) (hl : len ≤ 1024) (h : CopyAt B w a len cap A) :
    Calls Yba.prog 9 #[.slice a len cap] w fun e w' => ∃ a' cap', e = .returned (.slice a' (cnt A len) cap') ∧ Below B w w' := by
  rcases h with rfl | ⟨g, rfl, hg, hcap, hA, hH⟩
  · refine (Yba.slices_Compact_int_empty a cap w).mono ?_
    rintro e w' ⟨rfl, rfl⟩
    exact ⟨a, cap, rfl, Below.refl _ _⟩
  · subst hA
    refine (Yba.slices_Compact_int g 0 cap A w hH (by omega) hcap).mono ?_
    rintro e w' ⟨rfl, q, rfl⟩
    refine ⟨some ⟨g, 0, none⟩, cap, ?_, below_putRow (Below.refl _ _) _ _ _ _ _ hg⟩
    have := compact_len A A.length (Nat.le_refl _)
    rw [← this]
    rfl
end Go.Proofs.Ybulkcusg
