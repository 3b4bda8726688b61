/- (request).check (function 8). -/
import Derived.Test.YbulkcuzuFmtBuild
import Derived.Test.YbulkcuzuFmtErr
import Derived.Laws.IdiomRangeMap
import Derived.Sort.MapsRangeIn
namespace Go.Proofs
namespace YbulkcuzuFmt
open Go.RowKit Go.Maps Go.Extern.Stop Go.Stop Go.Extern
set_option linter.unusedVariables false

/-- What check answers: nil just if g. -/
def Verdict (g : Prop) (w : World) (e : Ending) (w' : World) : Prop :=
  Below w.heap.size w w' ∧ ((g ∧ e = .returned .nilIface) ∨ (¬ g ∧ ∃ a, e = .returned (.iface 50 (.pointer (some a)))))

theorem below_box {w w1 w2 : World} (h : Below w1.heap.size w1 w2) (h1 : Below w.heap.size w w1) : Below w.heap.size w w2 := h1.trans (h.mono h1.size)

set_option maxHeartbeats 2000000 in
theorem check8_bad (F : Interp) (m a p : ByteArray) (mp : Option Nat) (w : World) (g : Prop) (hg : g → Heads m a p) (hF : F.answers w.tape)
    (hm : m.size ≤ maxLen) (ha : a.size ≤ maxLen) (hp : p.size ≤ maxLen) (hH : ¬ Heads m a p) :
    Calls Ybaf.prog 8 #[.agg #[.string m, .string a, .string p, .map mp, .nilIface, .int .i64 (-1), .int .i64 0]] w (Verdict g w) := by
  have HN : Hid (¬ g) := fun h => hH (hg h)
  have HN2 : Hid (¬ Heads m a p) := hH
  clear hg hH
  go_enter Ybaf.func8, Ybaf.ntmps8
  go_wp2_with fail
  refine (plain10 _ _ _ hm).mono ?_
  rintro _ wx ⟨rfl, hw⟩
  subst hw
  cases h1 : plainB m false
  · go_wp2_with fail
    refine Calls.mono (err3 F m p a (w.heap.size + 1) _ ?_ ?_ ?_ ?_) ?_
    · exact hF
    · simp
    · simp
    · simp
    rintro _ w2 ⟨⟨ae, rfl⟩, hb⟩
    go_wp2
    go_ret
    exact ⟨below_box hb (((Below.refl _ _).alloc (Nat.le_refl _) _).alloc (by simp) _), .inr ⟨HN.out, _, rfl⟩⟩
  go_wp2_with fail
  refine (plain10 _ _ _ ha).mono ?_
  rintro _ wx ⟨rfl, hw⟩
  subst hw
  cases h2 : plainB a false
  · go_wp2_with fail
    refine Calls.mono (err3 F m p a (w.heap.size + 1) _ ?_ ?_ ?_ ?_) ?_
    · exact hF
    · simp
    · simp
    · simp
    rintro _ w2 ⟨⟨ae, rfl⟩, hb⟩
    go_wp2
    go_ret
    exact ⟨below_box hb (((Below.refl _ _).alloc (Nat.le_refl _) _).alloc (by simp) _), .inr ⟨HN.out, _, rfl⟩⟩
  go_wp2_with fail
  refine (plain10 _ _ _ hp).mono ?_
  rintro _ wx ⟨rfl, hw⟩
  subst hw
  cases h3 : plainB p false
  · go_wp2_with fail
    refine Calls.mono (err3 F m p a (w.heap.size + 1) _ ?_ ?_ ?_ ?_) ?_
    · exact hF
    · simp
    · simp
    · simp
    rintro _ w2 ⟨⟨ae, rfl⟩, hb⟩
    go_wp2
    go_ret
    exact ⟨below_box hb (((Below.refl _ _).alloc (Nat.le_refl _) _).alloc (by simp) _), .inr ⟨HN.out, _, rfl⟩⟩
  exact absurd ⟨h1, h2, h3⟩ HN2.out

set_option maxHeartbeats 2000000 in
theorem check8_nil (m a p : ByteArray) (w : World) (g : Prop) (hg : g)
    (hm : m.size ≤ maxLen) (ha : a.size ≤ maxLen) (hp : p.size ≤ maxLen) (hH : Heads m a p) :
    Calls Ybaf.prog 8 #[.agg #[.string m, .string a, .string p, .map none, .nilIface, .int .i64 (-1), .int .i64 0]] w (Verdict g w) := by
  have HG : Hid g := hg
  clear hg
  obtain ⟨h1, h2, h3⟩ := hH
  obtain ⟨W, hW⟩ : ∃ W, W = w.alloc (.cells #[.string m, .string a, .string p, .map none, .nilIface, .int .i64 (-1), .int .i64 0] 41) := ⟨_, rfl⟩
  have hrg := run_range_nilMap (P := Ybaf.prog) W 36 9 23 Ybaf.underlying36
  have hnx : ∀ ty, (Instr.next (.pointer (some ⟨W.heap.size, 0, none⟩)) false ty).run Ybaf.prog (W.alloc (.mapIter none 0 #[] 0)) = _ := fun ty => run_next_nilMap W ty 0 0 #[]
  have e1 : W.heap.size = w.heap.size + 1 := by rw [hW, size_alloc]
  rw [e1] at hrg hnx
  rw [hW] at hrg hnx
  clear hW e1
  go_enter Ybaf.func8, Ybaf.ntmps8
  go_wp2_with fail
  refine (plain10 _ _ _ hm).mono ?_
  rintro _ wx ⟨rfl, hw⟩
  subst hw
  rw [h1]
  go_wp2_with fail
  refine (plain10 _ _ _ ha).mono ?_
  rintro _ wx ⟨rfl, hw⟩
  subst hw
  rw [h2]
  go_wp2_with fail
  refine (plain10 _ _ _ hp).mono ?_
  rintro _ wx ⟨rfl, hw⟩
  subst hw
  rw [h3]
  go_wp2
  refine wp_loop_rounds 1 ?_
  rw [rounds_succ]
  go_wp2
  go_ret
  exact ⟨((Below.refl _ _).alloc (Nat.le_refl _) _).alloc (by simp) _, .inl ⟨HG.out, rfl⟩⟩

theorem last_exists {n : Nat} {K : Nat → ByteArray} {x : List UInt8} (h : ∃ i, i < n ∧ (K i).data.toList = x) : ∃ i, i < n ∧ (K i).data.toList = x ∧ lastAt n K i := by
  obtain ⟨i, hi, hx⟩ := h
  have key : ∀ d i, i < n → n - i ≤ d → (K i).data.toList = x → ∃ i, i < n ∧ (K i).data.toList = x ∧ lastAt n K i := by
    intro d
    induction d with
    | zero => intro i h1 h2; omega
    | succ d ih =>
      intro i h1 h2 h3
      by_cases hl : lastAt n K i
      · exact ⟨i, h1, h3, hl⟩
      · have : ∃ j, i < j ∧ j < n ∧ K j = K i := by
          refine Classical.byContradiction fun hn => hl fun j h4 h5 h6 => hn ⟨j, h4, h5, h6⟩
        obtain ⟨j, h4, h5, h6⟩ := this
        exact ih j h5 (by omega) (by rw [h6]; exact h3)
  exact key (n - i) i hi (Nat.le_refl _) hx

theorem readS_val {g l : Nat} {y : DataW Unit × List MemPlace} (h : readS (mkS (g, l)) = some y) : y.1 = elS g l := by
  unfold mkS at h
  rw [readS_mk] at h
  cases h
  rfl

set_option maxHeartbeats 4000000 in
theorem check8_map (F : Interp) (m a p : ByteArray) (B n : Nat) (K : Nat → ByteArray) (L : Nat → Nat) (S : Nat → Nat → ByteArray) (G : Nat → Nat) (D : DataW Unit) (w : World) (hF : F.answers w.tape)
    (hm : m.size ≤ maxLen) (ha : a.size ≤ maxLen) (hp : p.size ≤ maxLen) (hH : Heads m a p) (hM : Made B n K L S w G D) (hKl : ∀ i, i < n → (K i).size ≤ maxLen) (hL : ∀ i, i < n → L i ≤ 256)
    (hSl : ∀ i, i < n → ∀ j, j < L i → (S i j).size ≤ maxLen) :
    Calls Ybaf.prog 8 #[.agg #[.string m, .string a, .string p, .map (some B), .nilIface, .int .i64 (-1), .int .i64 0]] w (Verdict (Good m a p n K L S) w) := by
  have HH : Hid (Heads m a p) := hH
  obtain ⟨h1, h2, h3⟩ := hH
  have hBw := own_lt hM.own
  have hown0 := own_same (w' := w.alloc (.cells #[.string m, .string a, .string p, .map (some B), .nilIface, .int .i64 (-1), .int .i64 0] 41)) hM.own (((Below.refl _ _).alloc (Nat.le_refl _) _).block B hBw)
  have hbel0 : Below w.heap.size w (w.alloc (.cells #[.string m, .string a, .string p, .map (some B), .nilIface, .int .i64 (-1), .int .i64 0] 41)) := (Below.refl _ _).alloc (Nat.le_refl _) _
  go_enter Ybaf.func8, Ybaf.ntmps8
  go_wp2_with fail
  refine (plain10 _ _ _ hm).mono ?_
  rintro _ wx ⟨rfl, hw⟩
  subst hw
  rw [h1]
  go_wp2_with fail
  refine (plain10 _ _ _ ha).mono ?_
  rintro _ wx ⟨rfl, hw⟩
  subst hw
  rw [h2]
  go_wp2_with fail
  refine (plain10 _ _ _ hp).mono ?_
  rintro _ wx ⟨rfl, hw⟩
  subst hw
  rw [h3]
  go_wp2_with (first
    | (at_range; refine wpList_range_own _ rfl _ 36 rfl 9 23 Ybaf.law9 Ybaf.underlying36 readS B n D rfl hown0 ?_; intro w0 hrg0 hg0 hs0)
    | go_in)
  go_frame
  rw [size_alloc] at hrg0 hs0 ⊢
  have hbel1 : Below w.heap.size w w0 := hbel0.grown hg0 (by rw [size_alloc]; omega) (fun j hj => by cases hj)
  go_loopw [4] (fun _ wr => ∃ left cnt, wr.ranges Ybaf.prog 9 readS B (w.heap.size + 1) n D left cnt ∧ Below w.heap.size w wr ∧ (∀ kl, left kl = true → Maps.has D kl = true) ∧
      (∀ i, i < n → lastAt n K i → left (.string (K i).data.toList) = false → okAt K L S i)) (fun _ wr => wr.rangeLeft B (w.heap.size + 1))
  case atStart =>
    refine ⟨_, _, hrg0, hbel1, fun _ h => h, fun i hi _ hf => ?_⟩
    rw [(hM.has _).2 ⟨i, hi, rfl⟩] at hf
    cases hf
  case round =>
    obtain ⟨left, cnt, hrg, hbel, hsub, hok⟩ := hrel
    go_wp2_with (first
      | (at_next; refine wpList_next_ranges _ rfl _ rfl 9 Ybaf.law9 readS Value.string mkS (fun key kl h => keyOf_string_inv Ybaf.underlying9 h) (fun v y h => readS_inv v y h) B (w.heap.size + 1) n D left cnt rfl hrg ?_ ?_)
      | go_in)
    · intro _ hl0
      go_wp2
      go_ret
      exact ⟨hbel, .inl ⟨⟨HH.out, fun i hi hl => hok i hi hl (hl0 _)⟩, rfl⟩⟩
    · intro x g l kl y1 y2 w1 cnt1 hkx hlx hRv hat hrg1 hlt1 hg1 hs1 hen
      have hkl : kl = .string x.data.toList := by
        obtain ⟨s, h4, h5, _⟩ := WideMaps.string_of_keyOf Ybaf.underlying9 hkx
        cases h4
        exact h5
      subst hkl
      obtain ⟨i, hi, hxi, hlast⟩ := last_exists ((hM.has _).1 (hsub _ hlx))
      obtain rfl : K i = x := bytes_inj hxi
      have he := (hM.atK i hi hlast (.agg [])).symm.trans ((hat (.agg [])).trans (readS_val hRv))
      obtain ⟨rfl, rfl⟩ := elS_inj he
      have hbel2 : Below w.heap.size w w1 := hbel.grown hg1 hbel.size (fun j hj => by cases hj; omega)
      have hrow := (hM.row i hi).2
      have hrow1 : w1.heap[G i]? = _ := (hbel2.block (G i) (row_lt hrow)).trans hrow
      have hLi := hL i hi
      have hKi := hKl i hi
      have hF1 : F.answers w1.tape := by rw [hbel2.tape]; exact hF
      dsimp only [mkS] at hen ⊢
      clear hRv hat he hs1
      go_wp2
      go_loop [48] (fun q => ∃ j : Nat, j ≤ L i ∧ q = .int .i64 j ∧ (∀ x, x < j → plainB (K i) false = true ∧ plainB (S i x) true = true)) (fun q => L i - (intOf q).toNat)
      case atStart => exact ⟨0, by omega, rfl, fun x h => absurd h (by omega)⟩
      case round =>
        obtain ⟨j, hj, rfl, hgj⟩ := hrel
        by_cases hjl : j < L i
        · have hs : w1.cell? ⟨G i, j, none⟩ = some (.string (S i j)) := by
            rw [cell_of_row w1 _ _ _ _ _ hrow1]
            simpa using rowS_at S L i j hjl
          have hsl := hSl i hi j hjl
          go_wp2_with fail
          refine (plain10 _ _ _ hKi).mono ?_
          rintro _ w2 ⟨rfl, hw2⟩
          subst hw2
          cases hpk : plainB (K i) false
          · go_wp2_with fail
            refine Calls.mono (err2 F (K i) (S i j) w2.heap.size _ ?_ ?_ ?_) ?_
            · exact hF1
            · simp
            · simp
            rintro _ w3 ⟨⟨ae, rfl⟩, hb⟩
            go_wp2
            go_ret
            exact ⟨hbel2.trans ((below_box hb ((Below.refl _ _).alloc (Nat.le_refl _) _)).mono hbel2.size), .inr ⟨fun hG => (by
              have := (hG.2 i hi hlast j hjl).1
              rw [hpk] at this; cases this), _, rfl⟩⟩
          · go_wp2_with fail
            refine (plain10 _ _ _ hsl).mono ?_
            rintro _ w4 ⟨rfl, hw4⟩
            subst hw4
            cases hps : plainB (S i j) true
            · go_wp2_with fail
              refine Calls.mono (err2 F (K i) (S i j) w4.heap.size _ ?_ ?_ ?_) ?_
              · exact hF1
              · simp
              · simp
              rintro _ w3 ⟨⟨ae, rfl⟩, hb⟩
              go_wp2
              go_ret
              exact ⟨hbel2.trans ((below_box hb ((Below.refl _ _).alloc (Nat.le_refl _) _)).mono hbel2.size), .inr ⟨fun hG => (by
                have := (hG.2 i hi hlast j hjl).2
                rw [hps] at this; cases this), _, rfl⟩⟩
            · go_wp2
              go_round
              case rel => exact ⟨j + 1, by omega, by go_num, fun x hx => (by
                by_cases e : x = j
                · subst e; exact ⟨hpk, hps⟩
                · exact hgj x (by omega))⟩
              case measure => simp [intOf]; omega
        · go_wp2
          go_roundw
          case rel =>
            refine ⟨_, cnt1, hrg1, hbel2, fun kl h => hsub kl (by simp only [Bool.and_eq_true] at h; exact h.1), fun i' hi' hl' hf => ?_⟩
            by_cases e : K i' = K i
            · obtain rfl : i' = i := by
                rcases Nat.lt_trichotomy i' i with h | h | h
                · exact absurd e.symm (hl' i h hi)
                · exact h
                · exact absurd e (hlast i' h hi')
              exact fun x hx => hgj x (by omega)
            · refine hok i' hi' hl' ?_
              have hne : (Lit.string (K i').data.toList).sameKey (Lit.string (K i).data.toList) = false := sameKey_ne (fun h => e (bytes_inj (by simpa using h)))
              rw [hne] at hf
              simpa using hf
          case measure => rw [hrg1.left_eq, hrg.left_eq]; exact hlt1
end YbulkcuzuFmt
end Go.Proofs
