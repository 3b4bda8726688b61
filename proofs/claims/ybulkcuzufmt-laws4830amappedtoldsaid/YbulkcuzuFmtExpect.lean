/- The rows of entries as the walks meet them, and zzs4830aexpect (function 9). -/
import Derived.Test.YbulkcuzuFmtPlain
import Derived.BigQuiet
import Derived.Deep.DeepCutAuto
namespace Go.Proofs
theorem Ybaf.cells25 : Ybaf.prog.cellsOf 25 = 2 := by kernel_rfl
theorem Ybaf.cells9 : Ybaf.prog.cellsOf 9 = 1 := by kernel_rfl
theorem Ybaf.cells23 : Ybaf.prog.cellsOf 23 = 1 := by kernel_rfl
namespace YbulkcuzuFmt
open Go.RowKit
set_option linter.unusedVariables false

/-- A row of n entries at block b, offset o: key i, and the values' slice at i with its texts. -/
structure Ents (w : World) (ad : Option Addr) (b o n : Nat) (K : Nat → ByteArray) (A : Nat → Option Addr) (AB AO L C : Nat → Nat) (S : Nat → Nat → ByteArray) : Prop where
  at0 : 0 < n → ad = some ⟨b, o, none⟩
  len : n ≤ 256
  key : ∀ i, i < n → w.cell? ⟨b, o + i * 2, none⟩ = some (.string (K i))
  val : ∀ i, i < n → w.cell? ⟨b, o + i * 2 + 1, none⟩ = some (.slice (A i) (L i) (C i))
  keyLen : ∀ i, i < n → (K i).size ≤ maxLen
  lens : ∀ i, i < n → L i ≤ 256
  addr : ∀ i, i < n → 0 < L i → A i = some ⟨AB i, AO i, none⟩
  str : ∀ i, i < n → ∀ j, j < L i → w.cell? ⟨AB i, AO i + j, none⟩ = some (.string (S i j))
  strLen : ∀ i, i < n → ∀ j, j < L i → (S i j).size ≤ maxLen

def okAt (K : Nat → ByteArray) (L : Nat → Nat) (S : Nat → Nat → ByteArray) (i : Nat) : Prop := ∀ j, j < L i → plainB (K i) false = true ∧ plainB (S i j) true = true
def lastAt (n : Nat) (K : Nat → ByteArray) (i : Nat) : Prop := ∀ j, i < j → j < n → K j ≠ K i
def Heads (m a p : ByteArray) : Prop := plainB m false = true ∧ plainB a false = true ∧ plainB p false = true
def Good (m a p : ByteArray) (n : Nat) (K : Nat → ByteArray) (L : Nat → Nat) (S : Nat → Nat → ByteArray) : Prop :=
  Heads m a p ∧ ∀ i, i < n → lastAt n K i → okAt K L S i

theorem ret_no {r : Bool} {p : Prop} (h : r = true ↔ p) (hn : ¬ p) : Ending.returned (.bool false) = .returned (.bool r) := by
  cases r
  · rfl
  · exact absurd (h.1 rfl) hn
theorem ret_yes {r : Bool} {p : Prop} (h : r = true ↔ p) (hy : p) : Ending.returned (.bool true) = .returned (.bool r) := by rw [h.2 hy]

theorem str_ne {a b : ByteArray} (h : ¬ a = b) : (a.toList == b.toList) = false := by
  rw [ByteArray.toList_eq, ByteArray.toList_eq]
  refine beq_eq_false_iff_ne.2 fun e => h ?_
  cases a; cases b
  simpa using e

set_option maxHeartbeats 4000000 in
theorem expect9 (m a p : ByteArray) (ad : Option Addr) (b o n cap : Nat) (K : Nat → ByteArray) (A : Nat → Option Addr) (AB AO L C : Nat → Nat) (S : Nat → Nat → ByteArray) (w : World) (r : Bool)
    (hm : m.size ≤ maxLen) (ha : a.size ≤ maxLen) (hp : p.size ≤ maxLen) (hE : Ents w ad b o n K A AB AO L C S) (hr : r = true ↔ Good m a p n K L S) :
    Calls Ybaf.prog 9 #[.string m, .string a, .string p, .slice ad n cap] w fun e w' => e = .returned (.bool r) ∧ ∃ d, w' = w.drewN d := by
  have hn := hE.len
  by_cases hH : Heads m a p
  · have HR : Hid (r = true ↔ Good m a p n K L S) := hr
    clear hr
    obtain ⟨h1, h2, h3⟩ := hH
    go_enter Ybaf.func9, Ybaf.ntmps9
    go_wp2_with fail
    refine (plain12 _ _ _ hm).mono ?_
    rintro _ _ ⟨rfl, rfl⟩
    rw [h1]
    go_wp2_with fail
    refine (plain12 _ _ _ ha).mono ?_
    rintro _ _ ⟨rfl, rfl⟩
    rw [h2]
    go_wp2_with fail
    refine (plain12 _ _ _ hp).mono ?_
    rintro _ w ⟨rfl, rfl⟩
    rw [h3]
    go_wp2
    go_loopw [9] (fun i wr => ∃ k : Nat, k ≤ n ∧ i = .int .i64 k ∧ (∀ i, i < k → lastAt n K i → okAt K L S i) ∧ ∃ d, wr = w.drewN d) (fun i _ => n - (intOf i).toNat)
    case atStart => exact ⟨0, Nat.zero_le _, rfl, fun i h => absurd h (by omega), 0, rfl⟩
    case round =>
      obtain ⟨k, hk, rfl, hg, d, rfl⟩ := hrel
      by_cases hlt : k < n
      · have had := hE.at0 (by omega)
        subst had
        have hkey := hE.key k hlt
        have hval := hE.val k hlt
        have hkl := hE.keyLen k hlt
        have hl := hE.lens k hlt
        go_wp2
        go_loopw [10, 11] (fun l i wr => ∃ j : Nat, k < j ∧ j ≤ n ∧ l = .bool true ∧ i = .int .i64 j ∧ (∀ x, k < x → x < j → K x ≠ K k) ∧ ∃ d, wr = w.drewN d) (fun _ i _ => n - (intOf i).toNat)
        case atStart => exact ⟨k + 1, by omega, by omega, rfl, by go_num, fun x h1 h2 => absurd h1 (by omega), d, rfl⟩
        case round =>
          obtain ⟨j, hkj, hjn, rfl, rfl, hne, d2, rfl⟩ := hrel
          by_cases hjl : j < n
          · have hkeyj := hE.key j hjl
            by_cases heq : K j = K k
            · have HN : Hid (¬ lastAt n K k) := fun hl => hl j hkj hjl heq
              rw [heq] at hkeyj
              clear heq
              go_wp2
              go_quiet (fail)
              go_wp2
              go_roundw
              case rel => exact ⟨k + 1, by omega, by go_num, fun i hi hla => (by
                by_cases e : i = k
                · subst e; exact absurd hla HN.out
                · exact hg i (by omega) hla), _, rfl⟩
              case measure => simp [intOf]; omega
            · have hbe := str_ne heq
              go_wp2
              go_quiet (fail)
              go_wp2
              go_roundw
              case rel => exact ⟨j + 1, by omega, by omega, rfl, by go_num, fun x h1 h2 => (by
                by_cases e : x = j
                · subst e; exact heq
                · exact hne x h1 (by omega)), _, rfl⟩
              case measure => simp [intOf]; omega
          · have hlast : lastAt n K k := fun x h1 h2 => hne x h1 (by omega)
            by_cases hL0 : 0 < L k
            · have hA := hE.addr k hlt hL0
              rw [hA] at hval
              clear hA
              go_wp2
              go_loopw [60] (fun i wr => ∃ j : Nat, j ≤ L k ∧ i = .int .i64 j ∧ (∀ x, x < j → plainB (K k) false = true ∧ plainB (S k x) true = true) ∧ ∃ d, wr = w.drewN d) (fun i _ => L k - (intOf i).toNat)
              case atStart => exact ⟨0, by omega, rfl, fun x h => absurd h (by omega), _, rfl⟩
              case round =>
                obtain ⟨y, hy, rfl, hgy, d3, rfl⟩ := hrel
                by_cases hyl : y < L k
                · have hs := hE.str k hlt y hyl
                  have hsl := hE.strLen k hlt y hyl
                  go_wp2_with fail
                  refine (plain12 _ _ _ hkl).mono ?_
                  rintro _ w2 ⟨rfl, hw2⟩
                  subst hw2
                  cases hpk : plainB (K k) false
                  · go_wp2
                    go_ret
                    exact ⟨ret_no HR.out (fun hG => by have := (hG.2 k hlt hlast y hyl).1; rw [hpk] at this; cases this), _, rfl⟩
                  · go_wp2_with fail
                    refine (plain12 _ _ _ hsl).mono ?_
                    rintro _ w3 ⟨rfl, hw3⟩
                    subst hw3
                    cases hps : plainB (S k y) true
                    · go_wp2
                      go_ret
                      exact ⟨ret_no HR.out (fun hG => by have := (hG.2 k hlt hlast y hyl).2; rw [hps] at this; cases this), _, rfl⟩
                    · go_wp2
                      go_roundw
                      case rel => exact ⟨y + 1, by omega, by go_num, fun x hx => (by
                        by_cases e : x = y
                        · subst e; exact ⟨hpk, hps⟩
                        · exact hgy x (by omega)), _, rfl⟩
                      case measure => simp [intOf]; omega
                · go_wp2
                  go_roundw
                  case rel => exact ⟨k + 1, by omega, by go_num, fun i hi hla => (by
                    by_cases e : i = k
                    · subst e; exact fun x hx => hgy x (by omega)
                    · exact hg i (by omega) hla), _, rfl⟩
                  case measure => simp [intOf]; omega
            · have hL0' : ¬ (0 : Int) < (L k : Int) := by omega
              go_wp2
              go_loopw [60] (fun i wr => i = .int .i64 0 ∧ ∃ d, wr = w.drewN d) (fun i _ => 0)
              case atStart => exact ⟨rfl, _, rfl⟩
              case round =>
                obtain ⟨rfl, d3, rfl⟩ := hrel
                go_wp2
                go_roundw
                case rel => exact ⟨k + 1, by omega, by go_num, fun i hi hla => (by
                  by_cases e : i = k
                  · subst e; exact fun x hx => absurd hx (by omega)
                  · exact hg i (by omega) hla), _, rfl⟩
                case measure => simp [intOf]; omega
      · go_wp2
        go_ret
        exact ⟨ret_yes HR.out ⟨⟨h1, h2, h3⟩, fun i hi => hg i (by omega)⟩, _, rfl⟩
  · have HR : Hid (r = false) := by
      cases r
      · rfl
      · exact absurd (hr.1 rfl).1 hH
    have HR2 : Hid (¬ Heads m a p) := hH
    clear hr hH
    go_enter Ybaf.func9, Ybaf.ntmps9
    go_wp2_with fail
    refine (plain12 _ _ _ hm).mono ?_
    rintro _ _ ⟨rfl, rfl⟩
    cases h1 : plainB m false
    · go_wp2
      go_ret
      exact ⟨ret_b HR.out.symm, 0, rfl⟩
    go_wp2_with fail
    refine (plain12 _ _ _ ha).mono ?_
    rintro _ _ ⟨rfl, rfl⟩
    cases h2 : plainB a false
    · go_wp2
      go_ret
      exact ⟨ret_b HR.out.symm, 0, rfl⟩
    go_wp2_with fail
    refine (plain12 _ _ _ hp).mono ?_
    rintro _ w ⟨rfl, rfl⟩
    cases h3 : plainB p false
    · go_wp2
      go_ret
      exact ⟨ret_b HR.out.symm, 0, rfl⟩
    exact absurd ⟨h1, h2, h3⟩ HR2.out
end YbulkcuzuFmt
end Go.Proofs
