/- LawS4830AAccepts (function 3): true. -/
import Derived.Test.YbulkcuzuFmtRun
namespace Go.Proofs
namespace YbulkcuzuFmt
open Go.RowKit Go.Maps Go.Extern.Stop Go.Stop Go.Extern
set_option linter.unusedVariables false

/-- A row of entries, however long. -/
structure Raw (w : World) (ad : Option Addr) (b o n : Nat) (K : Nat → ByteArray) (A : Nat → Option Addr) (AB AO L C : Nat → Nat) (S : Nat → Nat → ByteArray) : Prop where
  at0 : 0 < n → ad = some ⟨b, o, none⟩
  key : ∀ i, i < n → w.cell? ⟨b, o + i * 2, none⟩ = some (.string (K i))
  val : ∀ i, i < n → w.cell? ⟨b, o + i * 2 + 1, none⟩ = some (.slice (A i) (L i) (C i))
  keyLen : ∀ i, i < n → (K i).size ≤ maxLen
  addr : ∀ i, i < n → 0 < L i → A i = some ⟨AB i, AO i, none⟩
  str : ∀ i, i < n → ∀ j, j < L i → w.cell? ⟨AB i, AO i + j, none⟩ = some (.string (S i j))
  strLen : ∀ i, i < n → ∀ j, j < L i → (S i j).size ≤ maxLen

theorem Raw.ents {w : World} {ad : Option Addr} {b o n : Nat} {K : Nat → ByteArray} {A : Nat → Option Addr} {AB AO L C : Nat → Nat} {S : Nat → Nat → ByteArray} (h : Raw w ad b o n K A AB AO L C S)
    (hn : n ≤ 256) (hl : ∀ i, i < n → L i ≤ 256) : Ents w ad b o n K A AB AO L C S := ⟨h.at0, hn, h.key, h.val, h.keyLen, hl, h.addr, h.str, h.strLen⟩

set_option maxHeartbeats 1000000 in
theorem accepts3 (F : Interp) (m a p : ByteArray) (ad : Option Addr) (b o n cap : Nat) (K : Nat → ByteArray) (A : Nat → Option Addr) (AB AO L C : Nat → Nat) (S : Nat → Nat → ByteArray) (w : World) (hF : F.answers w.tape)
    (hm : m.size ≤ maxLen) (ha : a.size ≤ maxLen) (hp : p.size ≤ maxLen) (hE : Raw w ad b o n K A AB AO L C S) (hb : 0 < n → b < w.heap.size) (hAB : ∀ i, i < n → 0 < L i → AB i < w.heap.size) :
    Calls Ybaf.prog 3 #[.string m, .string a, .string p, .slice ad n cap] w fun e w' => e = .returned (.bool true) ∧ Below w.heap.size w w' := by
  by_cases hn : 256 < n
  · have hn' : (256 : Int) < (n : Int) := by omega
    go_enter Ybaf.func3, Ybaf.ntmps3
    go_wp2
    go_ret
    exact ⟨rfl, Below.refl _ _⟩
  · have hn' : ¬ (256 : Int) < (n : Int) := by omega
    go_enter Ybaf.func3, Ybaf.ntmps3
    go_wp2
    go_loop [9] (fun i => ∃ k : Nat, k ≤ n ∧ i = .int .i64 k ∧ ∀ i, i < k → L i ≤ 256) (fun i => n - (intOf i).toNat)
    case atStart => exact ⟨0, Nat.zero_le _, rfl, fun i h => absurd h (by omega)⟩
    case round =>
      obtain ⟨k, hk, rfl, hg⟩ := hrel
      by_cases hlt : k < n
      · have had := hE.at0 (by omega)
        subst had
        have hval := hE.val k hlt
        by_cases hl : 256 < L k
        · have hl' : (256 : Int) < (L k : Int) := by omega
          go_wp2
          go_ret
          exact ⟨rfl, Below.refl _ _⟩
        · have hl' : ¬ (256 : Int) < (L k : Int) := by omega
          go_wp2
          go_round
          case rel => exact ⟨k + 1, by omega, by go_num, fun i hi => (by
            by_cases e : i = k
            · subst e; omega
            · exact hg i (by omega))⟩
          case measure => simp [intOf]; omega
      · have h5 := run5 F m a p ad b o n cap K A AB AO L C S w hF hm ha hp (hE.ents (by omega) (fun i hi => hg i (by omega))) hb hAB
        go_wp2_with fail
        refine h5.mono ?_
        rintro _ w1 ⟨rfl, hb1⟩
        go_wp2
        go_ret
        exact ⟨rfl, hb1⟩
end YbulkcuzuFmt
end Go.Proofs
