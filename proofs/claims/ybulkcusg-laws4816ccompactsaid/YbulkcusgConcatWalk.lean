import Derived.Test.YbulkcusgDistinct
namespace Go.Proofs.Ybulkcusg
open Go.RowKit

theorem Yba.info3 : (Yba.prog.info? 3).map (fun i => (i.zero, i.size, i.bytes)) = some (some (.int .i64 0), 1, 8) := by kernel_rfl

theorem rowAt_below {k : IntKind} {w w' : World} {a : Option Addr} {len : Nat} {zs : List Int} (h : RowAt k w a len zs) (hb : Below w.heap.size w w') : RowAt k w' a len zs := by
  refine ⟨h.1, fun i hi => ?_⟩
  obtain ⟨b, off, rfl, hlt, hc⟩ := h.2 i hi
  exact ⟨b, off, rfl, Nat.lt_of_lt_of_le hlt hb.size, (hb.cell (p := ⟨b, off + i, none⟩) hlt).trans hc⟩

theorem rowAt_nil {k : IntKind} {w : World} {a : Option Addr} : RowAt k w a 0 [] := ⟨by simp, fun i hi => absurd hi (by omega)⟩

theorem rowAt_src {w w' : World} {a : Option Addr} {len : Nat} {A : List Int} (h : RowAt .i64 w a len A) (hA : A.length = len) (hb : Below w.heap.size w w') :
    ∀ ad, a = some ad → ∀ j u, (A.map (Value.int .i64))[j]? = some u → w'.cell? (ad.add j) = some u := by
  intro ad had j u hu
  have hj : j < A.length := by have := (List.getElem?_eq_some_iff.1 hu).1; simpa using this
  obtain ⟨b, off, rfl, hlt, hc⟩ := (rowAt_below h hb).2 j (by omega)
  obtain rfl := Option.some.inj had
  rw [Addr.add_lit, hc]
  simp [hj] at hu
  simp [List.getD, hj, hu]

/-- What is owned reads as a row. -/
theorem rowAt_own {w : World} {base g n cap : Nat} {zs : List Int} (h : w.ownsRow base 3 1 (.slice (some ⟨g, 0, none⟩) n cap) n (zs.map (Value.int .i64))) : RowAt .i64 w (some ⟨g, 0, none⟩) n zs := by
  have hl : zs.length = n := by have := h.1; simpa using this
  refine ⟨by omega, fun i hi => ⟨g, 0, rfl, (h.lt g rfl).2, ?_⟩⟩
  have := h.cellAt i (by omega)
  rw [Nat.zero_add, this]
  simp [List.getD, hl, hi]

theorem runsTo_lt {w : World} {g len k : Nat} {zs : List Int} (h : RunsTo w g len k zs) : g < w.heap.size := by
  obtain ⟨cs, hh, _⟩ := h
  exact (Array.getElem?_eq_some_iff.1 hh).1

theorem ret_true {b : Bool} (h : b = true) : Ending.returned (.bool b) = .returned (.bool true) := by rw [h]

theorem law_ends (A B : List Int) (la lb : Nat) (hA : A.length = la) : ((cnt (A ++ B) (la + lb) : Nat) : Int) = (cnt A la : Int) + (cnt B lb : Int) - if 0 < la ∧ 0 < lb ∧ A.getD (la - 1) 0 = B.getD 0 0 then 1 else 0 := by
  have := cnt_append A B la hA lb
  split at this <;> split <;> first | omega | (exfalso; simp_all)

set_option maxHeartbeats 1000000 in
theorem concat_short (a0 : Option Addr) (len0 cap0 : Nat) (A : List Int) (a1 : Option Addr) (len1 cap1 : Nat) (B : List Int) (w : World)
    (hl0 : len0 ≤ 1024) (hl1 : len1 ≤ 1024) (hc0 : len0 ≤ cap0) (hc1 : len1 ≤ cap1) (hA : A.length = len0) (hB : B.length = len1) (hn0 : a0 = none → cap0 = 0) (hn1 : a1 = none → cap1 = 0)
    (r0 : RowAt .i64 w a0 len0 A) (r1 : RowAt .i64 w a1 len1 B) :
    Calls Yba.prog 5 #[.slice a0 len0 cap0, .slice a1 len1 cap1] w fun e w' => e = .returned (.bool true) ∧ Below w.heap.size w w' := by
  obtain ⟨i0, hi, hz0, hz1, hz2⟩ := info_parts Yba.info3
  have hg0 : decide ((1024 : Int) < (len0 : Int)) = false := decide_eq_false (by omega)
  have hg1 : decide ((1024 : Int) < (len1 : Int)) = false := decide_eq_false (by omega)
  have HA : Hid (A.length = len0) := hA
  have HB : Hid (B.length = len1) := hB
  clear hA hB
  go_enter Yba.func5, Yba.ntmps5
  go_wp2_with (refine wpList_make_own _ rfl _ _ 39 rfl w.heap.size 3 i0 _ 1 Yba.underlying39 hi hz0 hz1 .i64 .i64 ((len0 : Int) + (len1 : Int)) (len0 + len1) rfl rfl (by omega) (by rw [hz2]; omega) (by unfold maxLen; omega) (Nat.le_refl _) ?_)
  intro w1 hown1 hgrow1
  have b1 : Below w.heap.size w w1 := (Below.refl _ _).grown hgrow1 (Nat.le_refl _) (fun k hk => by cases hk)
  go_wp2_with (at_builtin; refine wpList_append_fits_any _ rfl (.tmp 24) (.tmp 25) 39 rfl w.heap.size 3 i0 1 Yba.underlying39 hi hz1 w.heap.size 0 (len0 + len1) [] rfl hown1 a0 len0 cap0 (A.map (Value.int .i64)) rfl ?_ ?_ ?_ ?_ ?_ ?_)
  · have := HA.out; simpa using this
  · intro h; have := hn0 h; omega
  · exact rowAt_src r0 HA.out b1
  · exact ints_oneCell _ _
  · omega
  intro w2 hown2 hgrow2
  have b2 : Below w.heap.size w w2 := b1.grown hgrow2 b1.size (fun k hk => by cases hk; exact Nat.le_refl _)
  go_wp2_with (at_builtin; refine wpList_append_fits_any _ rfl (.tmp 27) (.tmp 28) 39 rfl w.heap.size 3 i0 1 Yba.underlying39 hi hz1 w.heap.size len0 (len0 + len1) (A.map (Value.int .i64)) rfl hown2 a1 len1 cap1 (B.map (Value.int .i64)) rfl ?_ ?_ ?_ ?_ ?_ ?_)
  · have := HB.out; simpa using this
  · intro h; have := hn1 h; omega
  · exact rowAt_src r1 HB.out b2
  · exact ints_oneCell _ _
  · omega
  intro w3 hown3 hgrow3
  rw [← List.map_append] at hown3
  have b3 : Below w.heap.size w w3 := b2.grown hgrow3 b2.size (fun k hk => by cases hk; exact Nat.le_refl _)
  have r03 := rowAt_below r0 b3
  have r13 := rowAt_below r1 b3
  have rab3 := rowAt_own hown3
  clear hown1 hown2 hown3 hgrow1 hgrow2 hgrow3
  go_wp2_with fail
  refine (runs_any a0 len0 cap0 A none 0 0 [] _ (by omega) hc0 (Nat.zero_le _) r03 rowAt_nil).mono ?_
  rintro e w4 ⟨rfl, b34, hrun4⟩
  go_wp2_with fail
  have b4 := b3.trans (b34.mono b3.size)
  have h4 := runsTo_lt hrun4
  refine (distinct_any w3.heap.size len0 A _ (by omega) h4 hrun4).mono ?_
  rintro e w5 ⟨rfl, b45⟩
  have b5 := b4.trans (b45.mono b4.size)
  have r15 := rowAt_below r1 b5
  clear hrun4 h4
  go_wp2_with fail
  refine (runs_any a1 len1 cap1 B none 0 0 [] _ (by omega) hc1 (Nat.zero_le _) r15 rowAt_nil).mono ?_
  rintro e w6 ⟨rfl, b56, hrun6⟩
  have b6 := b5.trans (b56.mono b5.size)
  have h6 := runsTo_lt hrun6
  go_wp2_with fail
  refine (distinct_any w5.heap.size len1 B _ (by omega) h6 hrun6).mono ?_
  rintro e w7 ⟨rfl, b67⟩
  have b7 := b6.trans (b67.mono b6.size)
  have b37 : Below w3.heap.size w3 w7 := ((b34.trans (b45.mono b34.size)).trans (b56.mono (b34.trans (b45.mono b34.size)).size)).trans (b67.mono ((b34.trans (b45.mono b34.size)).trans (b56.mono (b34.trans (b45.mono b34.size)).size)).size)
  have rab7 := rowAt_below rab3 b37
  clear hrun6 h6
  go_wp2_with fail
  refine (runs_any (some ⟨w.heap.size, 0, none⟩) (len0 + len1) (len0 + len1) (A ++ B) none 0 0 [] _ (by omega) (Nat.le_refl _) (Nat.zero_le _) rab7 rowAt_nil).mono ?_
  rintro e w8 ⟨rfl, b78, hrun8⟩
  have b8 := b7.trans (b78.mono b7.size)
  have h8 := runsTo_lt hrun8
  go_wp2_with fail
  refine (distinct_any w7.heap.size (len0 + len1) (A ++ B) _ (by omega) h8 hrun8).mono ?_
  rintro e w9 ⟨rfl, b89⟩
  have b9 := b8.trans (b89.mono b8.size)
  have r09 := rowAt_below r0 b9
  have r19 := rowAt_below r1 b9
  clear hrun8 h8 b1 b2 b3 b4 b5 b6 b7 b8 b34 b45 b56 b67 b78 b89 b37 r03 r13 rab3 rab7 r15
  have e1 := law_ends A B len0 len1 HA.out
  have c0 := cnt_le A len0
  have c1 := cnt_le B len1
  have c2 := cnt_le (A ++ B) (len0 + len1)
  have c3 := cnt_pos (A ++ B) (len0 + len1)
  generalize cnt A len0 = da at *
  generalize cnt B len1 = db at *
  generalize cnt (A ++ B) (len0 + len1) = d at *
  by_cases hz : len0 = 0
  · have hq : decide ((0 : Int) < (len0 : Int)) = false := decide_eq_false (by omega)
    have hne : ((d : Int) != (da : Int) + (db : Int)) = false := by rw [if_neg (by omega)] at e1; simp; omega
    clear e1
    go_wp2
    go_quiet (fail)
    go_wp2
    · go_ret
      have : ((len1 : Int) == 0) = true := by assumption
      exact ⟨ret_true (by simp at this; simp; omega), below_drewN b9 _⟩
    · go_ret
      exact ⟨ret_true (by simp; omega), below_drewN b9 _⟩
    · have : ((len1 : Int) == 0) = false := by assumption
      have : (d : Int) < 1 := by assumption
      simp at *
      omega
  · have hpos : (0 : Int) < (len0 : Int) := by omega
    have hs : (((len0 : Int) + (len1 : Int)) == 0) = false := beq_eq_false_iff_ne.2 (by omega)
    have hd1 : 1 ≤ d := c3 (by omega)
    have hposN : 0 < len0 := by omega
    by_cases hz1 : len1 = 0
    · have hq : decide ((0 : Int) < (len1 : Int)) = false := decide_eq_false (by omega)
      have hne : ((d : Int) != (da : Int) + (db : Int)) = false := by rw [if_neg (by omega)] at e1; simp; omega
      clear e1
      go_wp2
      go_quiet (fail)
      go_wp2
      go_ret
      exact ⟨ret_true (by simp; omega), below_drewN b9 _⟩
    · obtain ⟨b0, o0, rfl, hb0, hcA⟩ := r09.2 (len0 - 1) (by omega)
      obtain ⟨b1, o1, rfl, hb1, hcB⟩ := r19.2 0 (by omega)
      rw [Nat.add_zero] at hcB
      have hpos1 : (0 : Int) < (len1 : Int) := by omega
      have hpos1N : 0 < len1 := by omega
      have hix : (len0 : Int) - 1 < (len0 : Int) := by omega
      have hix0 : (0 : Int) ≤ (len0 : Int) - 1 := by omega
      have hwr : IntKind.i64.wrap ((len0 : Int) - 1) = (len0 : Int) - 1 := Go.IntWalk.i64_in _ (by omega)
      have htn : ((len0 : Int) - 1).toNat = len0 - 1 := by omega
      obtain ⟨x, hx⟩ : ∃ x, x = A.getD (len0 - 1) 0 := ⟨_, rfl⟩
      obtain ⟨y, hy⟩ : ∃ y, y = B.getD 0 0 := ⟨_, rfl⟩
      rw [← hx] at hcA e1
      rw [← hy] at hcB e1
      clear hx hy r0 r1 r09 r19
      by_cases hxy : x = y
      · have hne : ((d : Int) != (da : Int) + (db : Int) - 1) = false := by rw [if_pos ⟨by omega, by omega, hxy⟩] at e1; simp; omega
        clear e1
        subst hxy
        go_wp2
        go_quiet (fail)
        go_wp2
        go_ret
        exact ⟨ret_true (by simp; omega), below_drewN b9 _⟩
      · have hne : ((d : Int) != (da : Int) + (db : Int)) = false := by rw [if_neg (fun h => hxy h.2.2)] at e1; simp; omega
        have hf : (x == y) = false := by simpa using hxy
        clear e1
        go_wp2
        go_quiet (fail)
        go_wp2
        go_ret
        exact ⟨ret_true (by simp; omega), below_drewN b9 _⟩
end Go.Proofs.Ybulkcusg
