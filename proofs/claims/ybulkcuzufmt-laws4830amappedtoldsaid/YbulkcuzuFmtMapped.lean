/- LawS4830AMapped (function 4): true. -/
import Derived.Test.YbulkcuzuFmtRun
import Derived.Test.YbulkcuzuFmtMap
import Derived.Deep.Slices
namespace Go.Proofs
namespace YbulkcuzuFmt
open Go.RowKit Go.Extern.Stop Go.Stop Go.Extern
set_option linter.unusedVariables false

/-- A row of entries of bytes that came in. -/
structure HB (w : World) (ad : Option Addr) (b o n : Nat) (KA VA : Nat → Option Addr) (KL KC VB VO VL VC : Nat → Nat) (EA : Nat → Nat → Option Addr) (EL EC : Nat → Nat → Nat) : Prop where
  at0 : 0 < n → ad = some ⟨b, o, none⟩
  lt : 0 < n → b < w.heap.size
  key : ∀ i, i < n → w.cell? ⟨b, o + i * 2, none⟩ = some (.slice (KA i) (KL i) (KC i))
  keyB : ∀ i, i < n → BytesAt w (KA i) (KL i)
  val : ∀ i, i < n → w.cell? ⟨b, o + i * 2 + 1, none⟩ = some (.slice (VA i) (VL i) (VC i))
  vaddr : ∀ i, i < n → 0 < VL i → VA i = some ⟨VB i, VO i, none⟩ ∧ VB i < w.heap.size
  elem : ∀ i, i < n → ∀ j, j < VL i → w.cell? ⟨VB i, VO i + j, none⟩ = some (.slice (EA i j) (EL i j) (EC i j))
  elemB : ∀ i, i < n → ∀ j, j < VL i → BytesAt w (EA i j) (EL i j)

theorem BytesAt.below {w w' : World} {ad : Option Addr} {n : Nat} (h : BytesAt w ad n) (hb : Below w.heap.size w w') : BytesAt w' ad n := fun h0 => by
  obtain ⟨b, o, had, hlt, hx⟩ := h h0
  refine ⟨b, o, had, Nat.lt_of_lt_of_le hlt hb.size, fun i hi => ?_⟩
  obtain ⟨x, h1, h2⟩ := hx i hi
  exact ⟨x, h1, (hb.cell (p := ⟨b, o + i, none⟩) hlt).trans h2⟩

def strsOf (ss : List ByteArray) : Obj := .cells (ss.map Value.string).toArray 9
theorem set_strs {w : World} {g k : Nat} {ss : List ByteArray} {v : ByteArray} (h : w.heap[g]? = some (strsOf ss)) : (w.setCell ⟨g, k, none⟩ (.string v)).heap[g]? = some (strsOf (ss.set k v)) := by
  unfold strsOf at h ⊢
  rw [heap_setCell_same w g k _ 9 (.string v) h]
  simp
theorem zero_strs (n : Nat) : zeroStr n = strsOf (List.replicate n ⟨#[]⟩) := by simp [zeroStr, strsOf]
theorem make_strs (n : Nat) (hn : n ≤ 256) (w : World) : (Instr.makeSlice 23 (.int .i64 n) (.int .i64 n)).run Ybaf.prog w = .ok (.slice (some ⟨w.heap.size, 0, none⟩) n n) (w.alloc (strsOf (List.replicate n ⟨#[]⟩))) := by
  rw [← zero_strs]; exact make_str n hn w

theorem Ybaf.info25 : (Ybaf.prog.info? 25).map (fun i => (i.zero, i.size, i.bytes)) = some (some (.agg #[.string ⟨#[]⟩, .slice none 0 0]), 2, 40) := by kernel_rfl
def zeroEnt (n : Nat) : Obj := .cells (madeCells #[.string ⟨#[]⟩, .slice none 0 0] (n * 2)) 25
theorem make_ent (n : Nat) (hn : n ≤ 256) (w : World) : (Instr.makeSlice 22 (.int .i64 n) (.int .i64 n)).run Ybaf.prog w = .ok (.slice (some ⟨w.heap.size, 0, none⟩) n n) (w.alloc (zeroEnt n)) := by
  obtain ⟨i0, hi, hz0, hz1, hz2⟩ := info_parts Ybaf.info25
  have := run_make (P := Ybaf.prog) w 22 25 i0 _ Ybaf.underlying22 hi hz0 .i64 .i64 n n (by omega) (Int.le_refl _) (by rw [hz2]; omega) (by omega)
  rw [hz1] at this
  simpa [zeroEnt, Value.cells] using this

/-- Entry i of the row that the law itself makes. -/
def EntAt (w : World) (B : Nat) (cs : Array Value) (i : Nat) (r : ByteArray × Nat × List ByteArray) : Prop :=
  cs[i * 2]? = some (.string r.1) ∧ cs[i * 2 + 1]? = some (.slice (some ⟨r.2.1, 0, none⟩) r.2.2.length r.2.2.length) ∧ r.1.size ≤ 1024 ∧ r.2.2.length ≤ 256 ∧ B < r.2.1 ∧ (∀ s ∈ r.2.2, s.size ≤ 1024) ∧ w.heap[r.2.1]? = some (strsOf r.2.2)

def HsTo (w wr : World) (B n k : Nat) : Prop :=
  Below B w wr ∧ ∃ cs : Array Value, wr.heap[B]? = some (.cells cs 25 (0, 0)) ∧ cs.size = n * 2 ∧ ∀ i, i < k → ∃ r, EntAt wr B cs i r

theorem hsTo_step {w wr w1 : World} {B n k g : Nat} {K : ByteArray} {ss : List ByteArray} (h : HsTo w wr B n k) (hk : k < n) (hwB : w.heap.size = B) (hb : Below wr.heap.size wr w1) (hBg : B < g) (hK : K.size ≤ 1024) (hss : ss.length ≤ 256) (hs : ∀ s ∈ ss, s.size ≤ 1024)
    (hrow : w1.heap[g]? = some (strsOf ss)) :
    HsTo w ((w1.setCell ⟨B, k * 2, none⟩ (.string K)).setCell ⟨B, k * 2 + 1, none⟩ (.slice (some ⟨g, 0, none⟩) ss.length ss.length)) B n (k + 1) := by
  obtain ⟨hbel, cs, hc, hsz, hall⟩ := h
  have hBl := row_lt hc
  have hc1 := (hb.block B hBl).trans hc
  have e1 := heap_setCell_same w1 B (k * 2) cs 25 (.string K) hc1
  have e2 := heap_setCell_same _ B (k * 2 + 1) _ 25 (.slice (some ⟨g, 0, none⟩) ss.length ss.length) e1
  have hbel1 : Below B w w1 := hbel.trans (hb.mono (by omega))
  refine ⟨(hbel1.setCell (Nat.le_refl _) _).setCell (Nat.le_refl _) _, _, e2, by simpa using hsz, fun i hi => ?_⟩
  have oth : ∀ x, x ≠ B → ((w1.setCell ⟨B, k * 2, none⟩ (.string K)).setCell ⟨B, k * 2 + 1, none⟩ (.slice (some ⟨g, 0, none⟩) ss.length ss.length)).heap[x]? = w1.heap[x]? := fun x hx => by
    rw [Below.heap_setCell _ _ _ _ hx, Below.heap_setCell _ _ _ _ hx]
  by_cases e : i = k
  · subst e
    refine ⟨(K, g, ss), ?_, ?_, hK, hss, hBg, hs, (oth g (by omega)).trans hrow⟩
    · simp only [Array.getElem?_setIfInBounds, Array.size_setIfInBounds]
      rw [if_neg (by omega), if_pos trivial, if_pos (by omega)]
    · simp only [Array.getElem?_setIfInBounds, Array.size_setIfInBounds]
      rw [if_pos trivial, if_pos (by omega)]
  · obtain ⟨r, r0, r1, r2, r3, r4, r5, r6⟩ := hall i (by omega)
    refine ⟨r, ?_, ?_, r2, r3, r4, r5, ?_⟩
    · simp only [Array.getElem?_setIfInBounds, Array.size_setIfInBounds]
      rw [if_neg (by omega), if_neg (by omega)]
      exact r0
    · simp only [Array.getElem?_setIfInBounds, Array.size_setIfInBounds]
      rw [if_neg (by omega), if_neg (by omega)]
      exact r1
    · rw [oth _ (by omega), hb.block _ (row_lt r6)]
      exact r6

theorem hsTo_start (w : World) (n : Nat) : HsTo w (w.alloc (zeroEnt n)) w.heap.size n 0 :=
  ⟨(Below.refl _ _).alloc (Nat.le_refl _) _, _, new_row _ _, size_madeCells _ _, fun i hi => absurd hi (by omega)⟩

theorem HsTo.below {w wr w1 : World} {B n k : Nat} (h : HsTo w wr B n k) (hb : Below wr.heap.size wr w1) : HsTo w w1 B n k := by
  obtain ⟨hbel, cs, hc, hsz, hall⟩ := h
  have hBl := row_lt hc
  refine ⟨hbel.trans (hb.mono (by omega)), cs, (hb.block B hBl).trans hc, hsz, fun i hi => ?_⟩
  obtain ⟨r, r0, r1, r2, r3, r4, r5, r6⟩ := hall i hi
  exact ⟨r, r0, r1, r2, r3, r4, r5, (hb.block _ (row_lt r6)).trans r6⟩

theorem HsTo.ents {w wr : World} {B n : Nat} (h : HsTo w wr B n n) (hn : n ≤ 256) :
    ∃ K A AB AO L C S, Ents wr (some ⟨B, 0, none⟩) B 0 n K A AB AO L C S ∧ B < wr.heap.size ∧ ∀ i, i < n → 0 < L i → AB i < wr.heap.size := by
  obtain ⟨hbel, cs, hc, hsz, hall⟩ := h
  obtain ⟨r, hr⟩ := Deep.choose_lt hall
  refine ⟨fun i => (r i).1, fun i => some ⟨(r i).2.1, 0, none⟩, fun i => (r i).2.1, fun _ => 0, fun i => (r i).2.2.length, fun i => (r i).2.2.length, fun i j => (r i).2.2.getD j default, ⟨fun _ => rfl, hn, fun i hi => ?_, fun i hi => ?_, fun i hi => ?_, fun i hi => (hr i hi).2.2.2.1, fun _ _ _ => rfl, fun i hi j hj => ?_, fun i hi j hj => ?_⟩, row_lt hc, fun i hi _ => row_lt (hr i hi).2.2.2.2.2.2⟩
  · rw [Nat.zero_add, cell_of_row wr _ _ _ _ _ hc]; exact (hr i hi).1
  · rw [Nat.zero_add, cell_of_row wr _ _ _ _ _ hc]; exact (hr i hi).2.1
  · have := (hr i hi).2.2.1
    unfold maxLen; omega
  · have hj' : j < (r i).2.2.length := hj
    rw [Nat.zero_add, cell_of_row wr _ _ _ _ _ (hr i hi).2.2.2.2.2.2]
    simp [List.getD, List.getElem?_eq_getElem hj']
  · have hj' : j < (r i).2.2.length := hj
    have := (hr i hi).2.2.2.2.2.1 ((r i).2.2[j]) (List.getElem_mem hj')
    simp only [List.getD, List.getElem?_eq_getElem hj', Option.getD_some]
    unfold maxLen; omega

set_option maxRecDepth 20000 in
set_option maxHeartbeats 4000000 in
theorem mapped4 (F : Interp) (am aa ap : Option Addr) (lm la lp cm ca cp : Nat) (ad : Option Addr) (b o n cap : Nat) (KA VA : Nat → Option Addr) (KL KC VB VO VL VC : Nat → Nat) (EA : Nat → Nat → Option Addr) (EL EC : Nat → Nat → Nat) (w : World) (hF : F.answers w.tape)
    (hm : BytesAt w am lm) (ha : BytesAt w aa la) (hp : BytesAt w ap lp) (hH : HB w ad b o n KA VA KL KC VB VO VL VC EA EL EC) :
    Calls Ybaf.prog 4 #[.slice am lm cm, .slice aa la ca, .slice ap lp cp, .slice ad n cap] w fun e w' => e = .returned (.bool true) ∧ Below w.heap.size w w' := by
  by_cases h1 : 1024 < lm
  · have h1' : (1024 : Int) < (lm : Int) := by omega
    go_enter Ybaf.func4, Ybaf.ntmps4
    go_wp2
    go_ret
    exact ⟨rfl, Below.refl _ _⟩
  have h1' : ¬ (1024 : Int) < (lm : Int) := by omega
  by_cases h2 : 1024 < la
  · have h2' : (1024 : Int) < (la : Int) := by omega
    go_enter Ybaf.func4, Ybaf.ntmps4
    go_wp2
    go_ret
    exact ⟨rfl, Below.refl _ _⟩
  have h2' : ¬ (1024 : Int) < (la : Int) := by omega
  by_cases h3 : 1024 < lp
  · have h3' : (1024 : Int) < (lp : Int) := by omega
    go_enter Ybaf.func4, Ybaf.ntmps4
    go_wp2
    go_ret
    exact ⟨rfl, Below.refl _ _⟩
  have h3' : ¬ (1024 : Int) < (lp : Int) := by omega
  by_cases h4 : 256 < n
  · have h4' : (256 : Int) < (n : Int) := by omega
    go_enter Ybaf.func4, Ybaf.ntmps4
    go_wp2
    go_ret
    exact ⟨rfl, Below.refl _ _⟩
  have h4' : ¬ (256 : Int) < (n : Int) := by omega
  have hme := make_ent n (by omega)
  go_enter Ybaf.func4, Ybaf.ntmps4
  go_wp2
  go_loopw [10] (fun i wr => ∃ k : Nat, k ≤ n ∧ i = .int .i64 k ∧ HsTo w wr w.heap.size n k) (fun i _ => n - (intOf i).toNat)
  case atStart => exact ⟨0, Nat.zero_le _, rfl, hsTo_start w n⟩
  case round =>
    obtain ⟨k, hk, rfl, hT⟩ := hrel
    have hbel := hT.1
    by_cases hlt : k < n
    · have had := hH.at0 (by omega)
      subst had
      have hbl := hH.lt (by omega)
      have gk := (hbel.cell (p := ⟨b, o + k * 2, none⟩) hbl).trans (hH.key k hlt)
      have gv := (hbel.cell (p := ⟨b, o + k * 2 + 1, none⟩) hbl).trans (hH.val k hlt)
      obtain ⟨va, hva⟩ : ∃ va, va = VA k := ⟨_, rfl⟩
      have hvad : 0 < VL k → va = some ⟨VB k, VO k, none⟩ := fun h => by rw [hva]; exact (hH.vaddr k hlt h).1
      rw [← hva] at gv
      clear hva
      by_cases hKL : 1024 < KL k
      · have hKL' : (1024 : Int) < (KL k : Int) := by omega
        go_wp2
        go_ret
        exact ⟨rfl, hbel⟩
      have hKL' : ¬ (1024 : Int) < (KL k : Int) := by omega
      by_cases hVL : 256 < VL k
      · have hVL' : (256 : Int) < (VL k : Int) := by omega
        go_wp2
        go_ret
        exact ⟨rfl, hbel⟩
      have hVL' : ¬ (256 : Int) < (VL k : Int) := by omega
      have hmk := make_strs (VL k) (by omega)
      go_wp2
      obtain ⟨wo, hwo⟩ : ∃ wo, wo = wr := ⟨_, rfl⟩
      subst hwo
      go_loopw [12] (fun i w2 => ∃ j : Nat, j ≤ VL k ∧ i = .int .i64 j ∧ Below wo.heap.size wo w2 ∧ ∃ ss : List ByteArray, ss.length = VL k ∧ w2.heap[wo.heap.size]? = some (strsOf ss) ∧ ∀ s ∈ ss, s.size ≤ 1024) (fun i _ => VL k - (intOf i).toNat)
      case atStart =>
        refine ⟨0, Nat.zero_le _, rfl, (Below.refl _ _).alloc (Nat.le_refl _) _, List.replicate (VL k) ⟨#[]⟩, by simp, new_row _ _, fun s hs => ?_⟩
        rw [(List.mem_replicate.1 hs).2]
        decide
      case round =>
        obtain ⟨j, hj, rfl, hb2, ss, hsl, hrow, hss⟩ := hrel
        have hbA : Below w.heap.size w wr := hbel.trans (hb2.mono hbel.size)
        have gk := (hbA.cell (p := ⟨b, o + k * 2, none⟩) hbl).trans (hH.key k hlt)
        have gv2 : wr.cell? ⟨b, o + k * 2 + 1, none⟩ = _ := (hb2.cell (p := ⟨b, o + k * 2 + 1, none⟩) (Nat.lt_of_lt_of_le hbl hbel.size)).trans gv
        by_cases hjl : j < VL k
        · have e := hvad (by omega)
          subst e
          have hVB := (hH.vaddr k hlt (by omega)).2
          have ge := (hbA.cell (p := ⟨VB k, VO k + j, none⟩) hVB).trans (hH.elem k hlt j hjl)
          by_cases hEL : 1024 < EL k j
          · have hEL' : (1024 : Int) < (EL k j : Int) := by omega
            go_wp2
            go_ret
            exact ⟨rfl, hbA⟩
          have hEL' : ¬ (1024 : Int) < (EL k j : Int) := by omega
          have h6 := map6 (EA k j) (EL k j) (EC k j) wr (by omega) ((hH.elemB k hlt j hjl).below hbA)
          go_wp2_with fail
          refine h6.mono ?_
          clear h6
          rintro _ w3 ⟨⟨s, hs, rfl⟩, hb3⟩
          have hrow3 : w3.heap[wo.heap.size]? = some (strsOf ss) := (hb3.block _ (row_lt hrow)).trans hrow
          have gr : w3.cell? ⟨wo.heap.size, j, none⟩ = some (.string (ss.getD j default)) := by
            rw [cell_of_row w3 _ _ _ _ _ hrow3]
            simp [List.getD, List.getElem?_eq_getElem (show j < ss.length by omega)]
          have gf : w3.frozen? ⟨wo.heap.size, j, none⟩ = false := frozen_of_row w3 _ _ _ _ hrow3
          go_wp2
          go_roundw
          case rel =>
            refine ⟨j + 1, by omega, by go_num, (hb2.trans (hb3.mono hb2.size)).setCell (Nat.le_refl _) _, ss.set j s, by rw [List.length_set]; exact hsl, set_strs hrow3, fun x hx => ?_⟩
            rcases List.mem_or_eq_of_mem_set hx with h | h
            · exact hss x h
            · rw [h]; exact hs
          case measure => simp [intOf]; omega
        · have h6 := map6 (KA k) (KL k) (KC k) wr (by omega) ((hH.keyB k hlt).below hbA)
          go_wp2_with fail
          refine h6.mono ?_
          clear h6
          rintro _ w3 ⟨⟨s, hs, rfl⟩, hb3⟩
          have hrow3 : w3.heap[wo.heap.size]? = some (strsOf ss) := (hb3.block _ (row_lt hrow)).trans hrow
          have hb23 : Below wo.heap.size wo w3 := hb2.trans (hb3.mono hb2.size)
          obtain ⟨_, cs, hc, hsz, _⟩ := hT.below hb23
          obtain ⟨v0, g0⟩ : ∃ v, w3.cell? ⟨w.heap.size, k * 2, none⟩ = some v := ⟨cs[k * 2]'(by omega), by rw [cell_of_row w3 _ _ _ _ _ hc]; simp⟩
          obtain ⟨v1, g1⟩ : ∃ v, w3.cell? ⟨w.heap.size, k * 2 + 1, none⟩ = some v := ⟨cs[k * 2 + 1]'(by omega), by rw [cell_of_row w3 _ _ _ _ _ hc]; simp⟩
          have f0 : w3.frozen? ⟨w.heap.size, k * 2, none⟩ = false := frozen_of_row w3 _ _ _ _ hc
          have f1 : w3.frozen? ⟨w.heap.size, k * 2 + 1, none⟩ = false := frozen_of_row w3 _ _ _ _ hc
          have hBo : w.heap.size < wo.heap.size := by obtain ⟨_, cs', hc', _⟩ := hT; exact row_lt hc'
          have hst := hsTo_step hT hlt rfl hb23 hBo hs (by omega) hss hrow3
          rw [hsl] at hst
          have HST : Hid _ := hst
          clear hst hc hsz hrow3 hrow hsl hss gk gv gv2 hvad
          go_wp2
          go_roundw
          case rel => exact ⟨k + 1, by omega, by go_num, HST.out⟩
          case measure => simp [intOf]; omega
    · obtain rfl : k = n := by omega
      have h61 := map6 am lm cm wr (by omega) (hm.below hbel)
      go_wp2_with fail
      refine h61.mono ?_
      clear h61
      rintro _ w3 ⟨⟨s1, hs1, rfl⟩, hb3⟩
      have hT3 := hT.below hb3
      have h62 := map6 aa la ca w3 (by omega) (ha.below hT3.1)
      go_wp2_with fail
      refine h62.mono ?_
      clear h62
      rintro _ w4 ⟨⟨s2, hs2, rfl⟩, hb4⟩
      have hT4 := hT3.below hb4
      have h63 := map6 ap lp cp w4 (by omega) (hp.below hT4.1)
      go_wp2_with fail
      refine h63.mono ?_
      clear h63
      rintro _ w5 ⟨⟨s3, hs3, rfl⟩, hb5⟩
      have hT5 := hT4.below hb5
      obtain ⟨K, A, AB, AO, L, C, S, hE, hBl, hAB⟩ := hT5.ents (by omega)
      have hF5 : F.answers w5.tape := by rw [hT5.1.tape]; exact hF
      have h5 := run5 F s1 s2 s3 (some ⟨w.heap.size, 0, none⟩) w.heap.size 0 k k K A AB AO L C S w5 hF5 (by unfold maxLen; omega) (by unfold maxLen; omega) (by unfold maxLen; omega) hE (fun _ => hBl) hAB
      clear hE hAB
      go_wp2_with fail
      refine h5.mono ?_
      clear h5
      rintro _ w6 ⟨rfl, hb6⟩
      go_wp2
      go_ret
      exact ⟨rfl, hT5.1.trans (hb6.mono hT5.1.size)⟩
end YbulkcuzuFmt
end Go.Proofs
