/- The walks of spelling[uint8], spelling[zzs4822ckind], zzs4822cmodel, and of the two laws over them. -/
import Derived.Test.YbulkcuvmRows
import Derived.WalkKit
import Derived.ProofKit
import Derived.SliceStrings
namespace Go.Proofs.Ybulkcuvm
open Go.RowKit
set_option linter.unusedVariables false

/-- A slice of strings as a walk reads it. -/
def StrAt (w : World) (a : Option Addr) (len : Nat) (ss : List ByteArray) : Prop :=
  ∀ i, i < len → ∃ b off, a = some ⟨b, off, none⟩ ∧ w.cell? ⟨b, off + i, none⟩ = some (.string (ss.getD i ByteArray.empty))

theorem spell8_in (a : Option Addr) (len cap : Nat) (ss : List ByteArray) (v : Nat) (w : World) (hv : v ≤ 255) (hl : len ≤ maxLen) (h : v < len) (r : StrAt w a len ss) :
    Calls Yba.prog 11 #[.slice a len cap, .int .u8 v] w fun e w' => e = .returned (.string (ss.getD v ByteArray.empty)) ∧ w' = w := by
  unfold maxLen at hl
  obtain ⟨b, off, rfl, hc⟩ := r v h
  obtain ⟨s, hs⟩ : ∃ s, s = ss.getD v ByteArray.empty := ⟨_, rfl⟩
  rw [← hs] at hc ⊢
  clear hs
  go_enter Yba.func11, Yba.ntmps11
  go_wp2
  go_ret
  exact ⟨rfl, rfl⟩

theorem spell8_out (a : Option Addr) (len cap : Nat) (v : Nat) (w : World) (hv : v ≤ 255) (hl : len ≤ maxLen) (h : ¬ v < len) :
    Calls Yba.prog 11 #[.slice a len cap, .int .u8 v] w fun e w' => e = .returned (.string ByteArray.empty) ∧ w' = w := by
  unfold maxLen at hl
  go_enter Yba.func11, Yba.ntmps11
  go_wp2
  go_ret
  exact ⟨rfl, rfl⟩

theorem spellK_in (a : Option Addr) (len cap : Nat) (ss : List ByteArray) (v : Nat) (w : World) (hv : v ≤ 255) (hl : len ≤ maxLen) (h : v < len) (r : StrAt w a len ss) :
    Calls Yba.prog 13 #[.slice a len cap, .int .u8 v] w fun e w' => e = .returned (.string (ss.getD v ByteArray.empty)) ∧ w' = w := by
  unfold maxLen at hl
  obtain ⟨b, off, rfl, hc⟩ := r v h
  obtain ⟨s, hs⟩ : ∃ s, s = ss.getD v ByteArray.empty := ⟨_, rfl⟩
  rw [← hs] at hc ⊢
  clear hs
  go_enter Yba.func13, Yba.ntmps13
  go_wp2
  go_ret
  exact ⟨rfl, rfl⟩

theorem spellK_out (a : Option Addr) (len cap : Nat) (v : Nat) (w : World) (hv : v ≤ 255) (hl : len ≤ maxLen) (h : ¬ v < len) :
    Calls Yba.prog 13 #[.slice a len cap, .int .u8 v] w fun e w' => e = .returned (.string ByteArray.empty) ∧ w' = w := by
  unfold maxLen at hl
  go_enter Yba.func13, Yba.ntmps13
  go_wp2
  go_ret
  exact ⟨rfl, rfl⟩

theorem model_in (a : Option Addr) (len cap : Nat) (ss : List ByteArray) (v : Nat) (w : World) (hv : v ≤ 255) (hl : len ≤ maxLen) (h : v < len) (r : StrAt w a len ss) :
    Calls Yba.prog 12 #[.slice a len cap, .int .i64 v] w fun e w' => e = .returned (.string (ss.getD v ByteArray.empty)) ∧ w' = w := by
  unfold maxLen at hl
  obtain ⟨b, off, rfl, hc⟩ := r v h
  obtain ⟨s, hs⟩ : ∃ s, s = ss.getD v ByteArray.empty := ⟨_, rfl⟩
  rw [← hs] at hc ⊢
  clear hs r
  go_enter Yba.func12, Yba.ntmps12
  go_wp2
  go_loop [5] (fun i => ∃ k : Nat, k ≤ v ∧ i = .int .i64 k) (fun i => len - (intOf i).toNat)
  case atStart => exact ⟨0, Nat.zero_le _, rfl⟩
  case round =>
    obtain ⟨k, hk, rfl⟩ := hrel
    have hkl : (k : Int) < (len : Int) := by omega
    by_cases he : k = v
    · subst he
      have hb : ((k : Int) == (k : Int)) = true := by simp
      go_wp2
      go_ret
      exact ⟨rfl, rfl⟩
    · have hb : ((k : Int) == (v : Int)) = false := beq_eq_false_iff_ne.2 (by omega)
      go_wp2
      go_round
      case rel => exact ⟨k + 1, by omega, by go_num⟩
      case measure => simp [intOf]; omega

theorem model_out (a : Option Addr) (len cap : Nat) (v : Nat) (w : World) (hv : v ≤ 255) (hl : len ≤ maxLen) (h : ¬ v < len) :
    Calls Yba.prog 12 #[.slice a len cap, .int .i64 v] w fun e w' => e = .returned (.string ByteArray.empty) ∧ w' = w := by
  unfold maxLen at hl
  go_enter Yba.func12, Yba.ntmps12
  go_wp2
  go_loop [5] (fun i => ∃ k : Nat, k ≤ len ∧ i = .int .i64 k) (fun i => len - (intOf i).toNat)
  case atStart => exact ⟨0, Nat.zero_le _, rfl⟩
  case round =>
    obtain ⟨k, hk, rfl⟩ := hrel
    by_cases hlt : k < len
    · have hb : ((k : Int) == (v : Int)) = false := beq_eq_false_iff_ne.2 (by omega)
      go_wp2
      go_round
      case rel => exact ⟨k + 1, by omega, by go_num⟩
      case measure => simp [intOf]; omega
    · go_wp2
      go_ret
      exact ⟨rfl, rfl⟩

theorem table_any (a : Option Addr) (len cap : Nat) (ss : List ByteArray) (v : Nat) (w : World) (hv : v ≤ 255) (hl : len ≤ maxLen) (r : StrAt w a len ss) :
    Calls Yba.prog 5 #[.slice a len cap, .int .u8 v] w fun e w' => e = .returned (.bool true) ∧ w' = w := by
  by_cases h : v < len
  · go_enter Yba.func5, Yba.ntmps5
    go_wp2_with fail
    refine (spell8_in a len cap ss v _ hv hl h r).mono ?_
    rintro e w1 ⟨rfl, rfl⟩
    go_wp2_with fail
    refine (model_in a len cap ss v _ hv hl h r).mono ?_
    rintro e w1 ⟨rfl, rfl⟩
    go_wp2
    go_ret
    exact ⟨by simp, rfl⟩
  · go_enter Yba.func5, Yba.ntmps5
    go_wp2_with fail
    refine (spell8_out a len cap v _ hv hl h).mono ?_
    rintro e w1 ⟨rfl, rfl⟩
    go_wp2_with fail
    refine (model_out a len cap v _ hv hl h).mono ?_
    rintro e w1 ⟨rfl, rfl⟩
    go_wp2
    go_ret
    exact ⟨by simp, rfl⟩

theorem named_any (a : Option Addr) (len cap : Nat) (ss : List ByteArray) (v : Nat) (w : World) (hv : v ≤ 255) (hl : len ≤ maxLen) (r : StrAt w a len ss) :
    Calls Yba.prog 6 #[.slice a len cap, .int .u8 v] w fun e w' => e = .returned (.bool true) ∧ w' = w := by
  have hl' := hl
  unfold maxLen at hl'
  by_cases h : v < len
  · have hd : ¬ (len : Int) ≤ (v : Int) := by omega
    go_enter Yba.func6, Yba.ntmps6
    go_wp2_with fail
    refine (spellK_in a len cap ss v _ hv hl h r).mono ?_
    rintro e w1 ⟨rfl, rfl⟩
    go_wp2_with fail
    refine (model_in a len cap ss v _ hv hl h r).mono ?_
    rintro e w1 ⟨rfl, rfl⟩
    go_wp2
    go_ret
    exact ⟨by simp, rfl⟩
  · have hd : (len : Int) ≤ (v : Int) := by omega
    go_enter Yba.func6, Yba.ntmps6
    go_wp2_with fail
    refine (spellK_out a len cap v _ hv hl h).mono ?_
    rintro e w1 ⟨rfl, rfl⟩
    go_wp2
    go_ret
    exact ⟨by simp, rfl⟩
end Go.Proofs.Ybulkcuvm
