/- The walks of the two byte tests: check$1 (function 10) and zzs4830aplain (function 12): both compute 'plainB'. -/
import Derived.Test.YbulkcuzuFmtRows
import Derived.WalkKit
import Derived.ProofKit
namespace Go.Proofs.YbulkcuzuFmt
open Go.RowKit
set_option linter.unusedVariables false

/-- A byte that may stand in a head. -/
def okByte (sp : Bool) (c : UInt8) : Bool := (decide (33 ≤ c.toNat) && decide (c.toNat ≤ 126)) || (c.toNat == 32 && sp)
/-- A text that may stand there: not empty, each byte good. -/
def plainB (s : ByteArray) (sp : Bool) : Bool := decide (0 < s.size) && s.data.toList.all (okByte sp)

/-- The first k bytes are good. -/
def goodTo (s : ByteArray) (sp : Bool) (k : Nat) : Prop := ∀ i (h : i < s.size), i < k → okByte sp s[i] = true

theorem plain_end {s : ByteArray} {sp : Bool} {k : Nat} (hk : s.size ≤ k) (h : goodTo s sp k) (h0 : 0 < s.size) : plainB s sp = true := by
  unfold plainB
  rw [Bool.and_eq_true]
  refine ⟨decide_eq_true h0, List.all_eq_true.2 fun c hc => ?_⟩
  obtain ⟨i, hi, rfl⟩ := List.mem_iff_getElem.1 hc
  have hi' : i < s.size := by simpa using hi
  exact h i hi' (by omega)

theorem plain_bad {s : ByteArray} {sp : Bool} {k : Nat} (hk : k < s.size) (h : okByte sp s[k] = false) : plainB s sp = false := by
  unfold plainB
  rw [Bool.and_eq_false_iff]
  refine .inr (Bool.eq_false_iff.2 fun hall => ?_)
  have := List.all_eq_true.1 hall s[k] (List.mem_iff_getElem.2 ⟨k, by simpa using hk, rfl⟩)
  rw [this] at h
  cases h

theorem good_succ {s : ByteArray} {sp : Bool} {k : Nat} (hk : k < s.size) (h : goodTo s sp k) (hb : okByte sp s[k] = true) : goodTo s sp (k + 1) := by
  intro i hi hik
  by_cases e : i = k
  · subst e; exact hb
  · exact h i hi (by omega)

theorem ret_b {a b : Bool} (h : a = b) : Ending.returned (.bool a) = .returned (.bool b) := by rw [h]

theorem byte_yes {sp : Bool} {c : UInt8} (h : (33 ≤ c.toNat ∧ c.toNat ≤ 126) ∨ (c.toNat = 32 ∧ sp = true)) : okByte sp c = true := by
  unfold okByte
  rcases h with ⟨h1, h2⟩ | ⟨h1, h2⟩
  · simp [h1, h2]
  · simp [h1, h2]
theorem byte_no {sp : Bool} {c : UInt8} (h : ¬ ((33 ≤ c.toNat ∧ c.toNat ≤ 126) ∨ (c.toNat = 32 ∧ sp = true))) : okByte sp c = false := by
  rw [Bool.eq_false_iff]
  intro ho
  refine h ?_
  unfold okByte at ho
  simp at ho
  exact ho

theorem plain_last {s : ByteArray} {sp : Bool} {k : Nat} (hk : s.size ≤ k) (h : goodTo s sp k) : (!s.toList.isEmpty) = plainB s sp := by
  by_cases h0 : 0 < s.size
  · rw [plain_end hk h h0, ByteArray.toList_eq]
    have : s.data.toList ≠ [] := fun e => by
      have := congrArg List.length e
      simp at this
      have h1 : s.size = s.data.size := rfl
      rw [h1, this] at h0
      simp at h0
    have h2 : s.data ≠ #[] := fun e => this (by rw [e])
    simp [h2]
  · have : plainB s sp = false := by unfold plainB; simp [h0]
    rw [this, ByteArray.toList_eq]
    have h1 : s.size = s.data.size := rfl
    have h2 : s.data.size = 0 := by omega
    have : s.data = #[] := Array.eq_empty_of_size_eq_zero h2
    simp [this]

set_option maxHeartbeats 1000000 in
theorem plain10 (s : ByteArray) (sp : Bool) (w : World) (hs : s.size ≤ maxLen) :
    Calls Ybaf.prog 10 #[.string s, .bool sp] w fun e w' => e = .returned (.bool (plainB s sp)) ∧ w' = w := by
  unfold maxLen at hs
  go_enter Ybaf.func10, Ybaf.ntmps10
  go_wp2
  go_loop [5] (fun i => ∃ k : Nat, k ≤ s.size ∧ i = .int .i64 k ∧ goodTo s sp k) (fun i => s.size - (intOf i).toNat)
  case atStart => exact ⟨0, Nat.zero_le _, rfl, fun i _ h => absurd h (by omega)⟩
  case round =>
    obtain ⟨k, hk, rfl, hg⟩ := hrel
    by_cases hlt : k < s.size
    · have hbyte : s[k].toNat < 256 := s[k].toNat_lt
      cases sp
      all_goals
        go_wp2
        all_goals first
          | (go_ret; exact ⟨ret_b (plain_bad hlt (byte_no (by simp; omega))).symm, rfl⟩)
          | (go_round
             case rel => exact ⟨k + 1, by omega, by go_num, good_succ hlt hg (byte_yes (by simp; omega))⟩
             case measure => simp [intOf]; omega)
    · go_wp2
      go_ret
      exact ⟨ret_b (plain_last (by omega) hg), rfl⟩

set_option maxHeartbeats 1000000 in
theorem plain12 (s : ByteArray) (sp : Bool) (w : World) (hs : s.size ≤ maxLen) :
    Calls Ybaf.prog 12 #[.string s, .bool sp] w fun e w' => e = .returned (.bool (plainB s sp)) ∧ w' = w := by
  unfold maxLen at hs
  by_cases h0 : s.size = 0
  · have hz : ((s.size : Int) == 0) = true := beq_iff_eq.2 (by omega)
    have HP : plainB s sp = false := by unfold plainB; simp [h0]
    rw [HP]
    clear HP h0
    go_enter Ybaf.func12, Ybaf.ntmps12
    go_wp2
    go_ret
    exact ⟨rfl, rfl⟩
  · have hz : ((s.size : Int) == 0) = false := beq_eq_false_iff_ne.2 (by omega)
    go_enter Ybaf.func12, Ybaf.ntmps12
    go_wp2
    go_loop [5] (fun i => ∃ k : Nat, k ≤ s.size ∧ i = .int .i64 k ∧ goodTo s sp k) (fun i => s.size - (intOf i).toNat)
    case atStart => exact ⟨0, Nat.zero_le _, rfl, fun i _ h => absurd h (by omega)⟩
    case round =>
      obtain ⟨k, hk, rfl, hg⟩ := hrel
      by_cases hlt : k < s.size
      · have hbyte : s[k].toNat < 256 := s[k].toNat_lt
        by_cases h32 : s[k].toNat = 32
        · have hb : ((s[k].toNat : Int) == 32) = true := beq_iff_eq.2 (by omega)
          cases sp
          · have HN : Hid (plainB s false = false) := plain_bad hlt (byte_no (sp := false) (c := s[k]) (by simp; omega))
            clear h32 hg
            go_wp2
            go_ret
            exact ⟨ret_b HN.out.symm, rfl⟩
          · have hyes := good_succ hlt hg (byte_yes (sp := true) (c := s[k]) (.inr ⟨h32, rfl⟩))
            clear h32
            go_wp2
            go_round
            case rel => exact ⟨k + 1, by omega, by go_num, hyes⟩
            case measure => simp [intOf]; omega
        · have hb : ((s[k].toNat : Int) == 32) = false := beq_eq_false_iff_ne.2 (by omega)
          by_cases hin : 33 ≤ s[k].toNat ∧ s[k].toNat ≤ 126
          · have hyes := good_succ hlt hg (byte_yes (sp := sp) (c := s[k]) (.inl hin))
            obtain ⟨h1, h2⟩ := hin
            go_wp2
            go_round
            case rel => exact ⟨k + 1, by omega, by go_num, hyes⟩
            case measure => simp [intOf]; omega
          · have HN : Hid (plainB s sp = false) := plain_bad hlt (byte_no (sp := sp) (c := s[k]) (fun h => by rcases h with h | h; exact hin h; exact h32 h.1))
            clear hg h32
            by_cases h1 : s[k].toNat < 33
            · clear hin
              go_wp2
              go_ret
              exact ⟨ret_b HN.out.symm, rfl⟩
            · have h2 : 126 < s[k].toNat := by omega
              clear hin
              go_wp2
              go_ret
              exact ⟨ret_b HN.out.symm, rfl⟩
      · go_wp2
        go_ret
        exact ⟨ret_b (plain_end (by omega) hg (by omega)).symm, rfl⟩
end Go.Proofs.YbulkcuzuFmt
