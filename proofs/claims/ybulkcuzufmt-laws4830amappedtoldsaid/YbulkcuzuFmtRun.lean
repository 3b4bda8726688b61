/- zzs4830arun (function 5): true. -/
import Derived.Test.YbulkcuzuFmtCheck
import Derived.WalkSmall
namespace Go.Proofs
namespace YbulkcuzuFmt
open Go.RowKit Go.Maps Go.Extern.Stop Go.Stop Go.Extern
set_option linter.unusedVariables false

theorem Ents.below {w w' : World} {ad : Option Addr} {b o n : Nat} {K : Nat → ByteArray} {A : Nat → Option Addr} {AB AO L C : Nat → Nat} {S : Nat → Nat → ByteArray}
    (h : Ents w ad b o n K A AB AO L C S) (hb : 0 < n → b < w.heap.size) (hAB : ∀ i, i < n → 0 < L i → AB i < w.heap.size) (hw : Below w.heap.size w w') : Ents w' ad b o n K A AB AO L C S :=
  ⟨h.at0, h.len, fun i hi => (hw.cell (p := ⟨b, o + i * 2, none⟩) (hb (by omega))).trans (h.key i hi), fun i hi => (hw.cell (p := ⟨b, o + i * 2 + 1, none⟩) (hb (by omega))).trans (h.val i hi), h.keyLen, h.lens, h.addr,
    fun i hi j hj => (hw.cell (p := ⟨AB i, AO i + j, none⟩) (hAB i hi (by omega))).trans (h.str i hi j hj), h.strLen⟩

theorem Ents.drewN {w : World} {ad : Option Addr} {b o n : Nat} {K : Nat → ByteArray} {A : Nat → Option Addr} {AB AO L C : Nat → Nat} {S : Nat → Nat → ByteArray}
    (h : Ents w ad b o n K A AB AO L C S) (d : Nat) : Ents (w.drewN d) ad b o n K A AB AO L C S :=
  ⟨h.at0, h.len, h.key, h.val, h.keyLen, h.lens, h.addr, h.str, h.strLen⟩

theorem Made.below {B n : Nat} {K : Nat → ByteArray} {L : Nat → Nat} {S : Nat → Nat → ByteArray} {w w' : World} {G : Nat → Nat} {D : DataW Unit} (h : Made B n K L S w G D) (hb : Below w.heap.size w w') : Made B n K L S w' G D :=
  ⟨own_same h.own (hb.block B (own_lt h.own)), h.has, h.atK, fun i hi => ⟨(h.row i hi).1, (hb.block (G i) (row_lt (h.row i hi).2)).trans (h.row i hi).2⟩⟩

set_option maxHeartbeats 1000000 in
theorem build7_nil (ad : Option Addr) (cap : Nat) (w : World) :
    Calls Ybaf.prog 7 #[.slice ad 0 cap] w fun e w' => e = .returned (.map none) ∧ w' = w := by
  go_enter Ybaf.func7, Ybaf.ntmps7
  go_wp2
  go_ret
  exact ⟨rfl, rfl⟩

set_option maxHeartbeats 2000000 in
theorem run5_with (m a p : ByteArray) (ad : Option Addr) (b o n cap : Nat) (K : Nat → ByteArray) (A : Nat → Option Addr) (AB AO L C : Nat → Nat) (S : Nat → Nat → ByteArray) (w : World) (mp : Option Nat)
    (hm : m.size ≤ maxLen) (ha : a.size ≤ maxLen) (hp : p.size ≤ maxLen) (hE : Ents w ad b o n K A AB AO L C S) (hb : 0 < n → b < w.heap.size) (hAB : ∀ i, i < n → 0 < L i → AB i < w.heap.size) (Q : World → Prop)
    (h7 : Calls Ybaf.prog 7 #[.slice ad n cap] w fun e w' => e = .returned (.map mp) ∧ Below w.heap.size w w' ∧ Q w')
    (h8 : ∀ w1, Below w.heap.size w w1 → Q w1 → Calls Ybaf.prog 8 #[.agg #[.string m, .string a, .string p, .map mp, .nilIface, .int .i64 (-1), .int .i64 0]] (w1.alloc (.cells #[.string m, .string a, .string p, .map mp, .nilIface, .int .i64 (-1), .int .i64 0] 41))
      (Verdict (Good m a p n K L S) (w1.alloc (.cells #[.string m, .string a, .string p, .map mp, .nilIface, .int .i64 (-1), .int .i64 0] 41)))) :
    Calls Ybaf.prog 5 #[.string m, .string a, .string p, .slice ad n cap] w fun e w' => e = .returned (.bool true) ∧ Below w.heap.size w w' := by
  have H8 : Hid (∀ w1, Below w.heap.size w w1 → Q w1 → Calls Ybaf.prog 8 #[.agg #[.string m, .string a, .string p, .map mp, .nilIface, .int .i64 (-1), .int .i64 0]] (w1.alloc (.cells #[.string m, .string a, .string p, .map mp, .nilIface, .int .i64 (-1), .int .i64 0] 41))
      (Verdict (Good m a p n K L S) (w1.alloc (.cells #[.string m, .string a, .string p, .map mp, .nilIface, .int .i64 (-1), .int .i64 0] 41)))) := h8
  clear h8
  go_enter Ybaf.func5, Ybaf.ntmps5
  go_wp2_with fail
  refine h7.mono ?_
  rintro _ w1 ⟨rfl, hb1, hQ⟩
  go_wp2_with fail
  refine (H8.out w1 hb1 hQ).mono ?_
  rintro e w3 ⟨hb3, hv⟩
  have hbel : Below w.heap.size w w3 := (hb1.alloc hb1.size _).trans (hb3.mono (by have := hb1.size; rw [size_alloc]; omega))
  have hE3 := hE.below hb hAB hbel
  rcases hv with ⟨hG, rfl⟩ | ⟨hG, ae, rfl⟩
  · have h9 : ∀ d, Calls Ybaf.prog 9 #[.string m, .string a, .string p, .slice ad n cap] (w3.drewN d) fun e w' => e = .returned (.bool true) ∧ ∃ q, w' = (w3.drewN d).drewN q :=
      fun d => expect9 m a p ad b o n cap K A AB AO L C S _ true hm ha hp (hE3.drewN d) ⟨fun _ => hG, fun _ => rfl⟩
    clear hG
    go_wp2
    go_quiet ((go_at_call 9; exact Calls.quiet_of (h9 _)))
    go_wp2
    go_ret
    exact ⟨rfl, below_drewN hbel _⟩
  · have h9 : ∀ d, Calls Ybaf.prog 9 #[.string m, .string a, .string p, .slice ad n cap] (w3.drewN d) fun e w' => e = .returned (.bool false) ∧ ∃ q, w' = (w3.drewN d).drewN q :=
      fun d => expect9 m a p ad b o n cap K A AB AO L C S _ false hm ha hp (hE3.drewN d) ⟨fun h => (by cases h), fun h => absurd h hG⟩
    clear hG
    go_wp2
    go_quiet ((go_at_call 9; exact Calls.quiet_of (h9 _)))
    go_wp2
    go_ret
    exact ⟨rfl, below_drewN hbel _⟩

theorem run5 (F : Interp) (m a p : ByteArray) (ad : Option Addr) (b o n cap : Nat) (K : Nat → ByteArray) (A : Nat → Option Addr) (AB AO L C : Nat → Nat) (S : Nat → Nat → ByteArray) (w : World) (hF : F.answers w.tape)
    (hm : m.size ≤ maxLen) (ha : a.size ≤ maxLen) (hp : p.size ≤ maxLen) (hE : Ents w ad b o n K A AB AO L C S) (hb : 0 < n → b < w.heap.size) (hAB : ∀ i, i < n → 0 < L i → AB i < w.heap.size) :
    Calls Ybaf.prog 5 #[.string m, .string a, .string p, .slice ad n cap] w fun e w' => e = .returned (.bool true) ∧ Below w.heap.size w w' := by
  by_cases h0 : 0 < n
  · refine run5_with m a p ad b o n cap K A AB AO L C S w (some w.heap.size) hm ha hp hE hb hAB (fun w' => ∃ G D, Made w.heap.size n K L S w' G D) (build7 ad b o n cap K A AB AO L C S w hE h0 (hb h0) hAB) ?_
    rintro w1 hb1 ⟨G, D, hM⟩
    have hF1 : F.answers (w1.alloc (.cells #[.string m, .string a, .string p, .map (some w.heap.size), .nilIface, .int .i64 (-1), .int .i64 0] 41)).tape := by
      show F.answers w1.tape
      rw [hb1.tape]; exact hF
    by_cases hH : Heads m a p
    · exact check8_map F m a p w.heap.size n K L S G D _ hF1 hm ha hp hH (hM.below ((Below.refl _ _).alloc (Nat.le_refl _) _)) hE.keyLen hE.lens hE.strLen
    · exact check8_bad F m a p _ _ _ (fun h => h.1) hF1 hm ha hp hH
  · obtain rfl : n = 0 := by omega
    refine run5_with m a p ad b o 0 cap K A AB AO L C S w none hm ha hp hE hb hAB (fun w' => True) ((build7_nil ad cap w).mono fun e w' h => ⟨h.1, by rw [h.2]; exact Below.refl _ _, trivial⟩) ?_
    rintro w1 hb1 _
    have hF1 : F.answers (w1.alloc (.cells #[.string m, .string a, .string p, .map none, .nilIface, .int .i64 (-1), .int .i64 0] 41)).tape := by
      show F.answers w1.tape
      rw [hb1.tape]; exact hF
    by_cases hH : Heads m a p
    · exact check8_nil m a p _ _ ⟨hH, fun i hi => absurd hi (by omega)⟩ hm ha hp hH
    · exact check8_bad F m a p _ _ _ (fun h => h.1) hF1 hm ha hp hH
end YbulkcuzuFmt
end Go.Proofs
