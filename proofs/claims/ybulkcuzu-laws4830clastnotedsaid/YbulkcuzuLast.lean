/- LawS4830CLastNoted (function 3): true. -/
import Derived.Test.YbulkcuzuMem
namespace Go.Proofs.Ybulkcuzu
open Go.RowKit Go.Maps
set_option linter.unusedVariables false

/-- What was last noted of x by steps a to k - 1. -/
def lastNote (op : Nat → Nat) (nm : Nat → ByteArray) (vl : Nat → Bool) (a : Nat) (x : List UInt8) : Nat → Bool
  | 0 => false
  | k + 1 => if a ≤ k ∧ op k % 4 < 2 ∧ (nm k).data.toList = x then vl k else lastNote op nm vl a x k

theorem lastNote_succ (op : Nat → Nat) (nm : Nat → ByteArray) (vl : Nat → Bool) (a : Nat) (x : List UInt8) (k : Nat) :
    lastNote op nm vl a x (k + 1) = if a ≤ k ∧ op k % 4 < 2 ∧ (nm k).data.toList = x then vl k else lastNote op nm vl a x k := rfl

theorem lastNote_le (op : Nat → Nat) (nm : Nat → ByteArray) (vl : Nat → Bool) (a : Nat) (x : List UInt8) : ∀ k, k ≤ a → lastNote op nm vl a x k = false
  | 0, _ => rfl
  | k + 1, h => by
    unfold lastNote
    rw [if_neg (by omega)]
    exact lastNote_le op nm vl a x k (by omega)

theorem bytes_inj {a b : ByteArray} (h : a.data.toList = b.data.toList) : a = b := by
  cases a; cases b
  simpa using h
theorem str_ne {a b : ByteArray} (h : ¬ a = b) : (a.toList == b.toList) = false := by
  rw [ByteArray.toList_eq, ByteArray.toList_eq]
  exact beq_eq_false_iff_ne.2 fun e => h (bytes_inj e)
theorem last_hit {op : Nat → Nat} {nm : Nat → ByteArray} {vl : Nat → Bool} {a k : Nat} (ha : a ≤ k) (ho : op k % 4 < 2) (z : List UInt8) :
    (if z = (nm k).data.toList then vl k else lastNote op nm vl a z k) = lastNote op nm vl a z (k + 1) := by
  rw [lastNote_succ]
  by_cases e : z = (nm k).data.toList
  · rw [if_pos e, if_pos ⟨ha, ho, e.symm⟩]
  · rw [if_neg e, if_neg (fun h => e h.2.2.symm)]

def On (w : World) (g : Nat) (f : List UInt8 → Bool) (N : Nat) : Prop :=
  ∃ (v : Int) (B : Nat) (D : DataW Unit), Rec w g (some B) v ∧ g < B ∧ w.ownsMap Yba.prog 9 (plainElem Yba.prog 4) B N D ∧ ∀ x, D.atKey (.string x) (.lit (.bool false)) = .lit (.bool (f x))
def Off (w : World) (g : Nat) : Prop := ∃ v, Rec w g none v

theorem Rec.alloc {w : World} {g : Nat} {mp : Option Nat} {v : Int} (h : Rec w g mp v) (o : Obj) : Rec (w.alloc o) g mp v := (Below.heap_alloc w o g h.lt).trans h
theorem On.alloc {w : World} {g N : Nat} {f : List UInt8 → Bool} (h : On w g f N) (o : Obj) : On (w.alloc o) g f N := by
  obtain ⟨v, B, D, hR, hB, ho, ha⟩ := h
  exact ⟨v, B, D, hR.alloc o, hB, ho.alloc o, ha⟩
theorem Off.alloc {w : World} {g : Nat} (h : Off w g) (o : Obj) : Off (w.alloc o) g := by
  obtain ⟨v, hR⟩ := h
  exact ⟨v, hR.alloc o⟩
theorem On.lt {w : World} {g N : Nat} {f : List UInt8 → Bool} (h : On w g f N) : g < w.heap.size := by obtain ⟨v, B, D, hR, _⟩ := h; exact hR.lt

theorem below_grown {w w' : World} {g : Nat} (hg : g < w.heap.size) (h : w.grownBy w' (some g)) : Below g w w' := (Below.refl g w).grown h (Nat.le_of_lt hg) (fun j hj => by cases hj; exact Nat.le_refl _)

theorem hold_on (g N : Nat) (f : List UInt8 → Bool) (x : ByteArray) (w : World) (h : On w g f N) (hx : x.size ≤ maxLen) :
    Calls Yba.prog 4 #[.pointer (some ⟨g, 0, none⟩), .string x] w fun e w' => e = .returned (.bool (f x.data.toList)) ∧ Below g w w' := by
  obtain ⟨v, B, D, hR, hB, ho, ha⟩ := h
  refine (hold_map g B N D x v w hR (by omega) ho hx).mono ?_
  rintro e w' ⟨c, rfl, hc, _, hg⟩
  rw [ha] at hc
  simp only [DataW.lit.injEq, Lit.bool.injEq] at hc
  rw [hc]
  exact ⟨rfl, below_grown hR.lt hg⟩
theorem hold_off (g : Nat) (x : ByteArray) (w : World) (h : Off w g) (hx : x.size ≤ maxLen) :
    Calls Yba.prog 4 #[.pointer (some ⟨g, 0, none⟩), .string x] w fun e w' => e = .returned (.bool false) ∧ Below g w w' ∧ Off w' g := by
  obtain ⟨v, hR⟩ := h
  exact (hold_nil g x v w hR hx).mono fun e w' ⟨h1, h2, h3⟩ => ⟨h1, below_grown hR.lt h3, v, h2⟩
theorem add_on (g N : Nat) (f : List UInt8 → Bool) (x : ByteArray) (y : Bool) (w : World) (h : On w g f N) (hN : N < maxLen) (hx : x.size ≤ maxLen) :
    Calls Yba.prog 6 #[.pointer (some ⟨g, 0, none⟩), .string x, .bool y] w fun e w' => e = .returned (.tuple #[]) ∧ Below g w w' ∧ On w' g (fun z => if z = x.data.toList then y else f z) (N + 1) := by
  obtain ⟨v, B, D, hR, hB, ho, ha⟩ := h
  refine (add_map g B N D x y v w hR hB ho hN hx).mono ?_
  rintro e w' ⟨rfl, h2, h3, h4⟩
  refine ⟨rfl, h3, v, B, _, h2, hB, h4, fun z => ?_⟩
  have hmap : IsMap D := by obtain ⟨es, clock, _, _, _, rfl⟩ := ho; exact ⟨_, rfl⟩
  by_cases e : z = x.data.toList
  · subst e
    have hlit : WideAt.IsKeyLit (.string x.data.toList) := trivial
    rw [atKey_put_same hmap hlit]
    simp
  · rw [atKey_put_other (fun h' => e (by simpa using h')), ha z]
    simp [e]
theorem add_off (g : Nat) (x : ByteArray) (y : Bool) (w : World) (h : Off w g) :
    Calls Yba.prog 6 #[.pointer (some ⟨g, 0, none⟩), .string x, .bool y] w fun e w' => e = .returned (.tuple #[]) ∧ Below g w w' ∧ Off w' g := by
  obtain ⟨v, hR⟩ := h
  exact (add_nil g x y v w hR).mono fun e w' ⟨h1, h2, h3⟩ => ⟨h1, below_grown hR.lt h3, v, h2⟩

def Any (w : World) (g : Nat) : Prop := ∃ mp v, Rec w g mp v
theorem On.any {w : World} {g N : Nat} {f : List UInt8 → Bool} (h : On w g f N) : Any w g := by obtain ⟨v, B, D, hR, _⟩ := h; exact ⟨_, _, hR⟩
theorem Off.any {w : World} {g : Nat} (h : Off w g) : Any w g := by obtain ⟨v, hR⟩ := h; exact ⟨_, _, hR⟩
theorem Any.alloc {w : World} {g : Nat} (h : Any w g) (o : Obj) : Any (w.alloc o) g := by obtain ⟨mp, v, hR⟩ := h; exact ⟨mp, v, hR.alloc o⟩
theorem stop_off (g : Nat) (w : World) (h : Any w g) : Calls Yba.prog 7 #[.pointer (some ⟨g, 0, none⟩)] w fun e w' => e = .returned (.tuple #[]) ∧ Below g w w' ∧ Off w' g := by
  obtain ⟨mp, v, hR⟩ := h
  exact (stop_any g mp v w hR).mono fun e w' ⟨h1, h2, h3⟩ => ⟨h1, h3, v, h2⟩
theorem start_on (g : Nat) (ad : Option Addr) (b o n cap : Nat) (hn : Nat → ByteArray) (w : World) (h : Any w g) (hH : Helds w ad b o n hn) (hb : 0 < n → b < g) (hle : n ≤ 1024) :
    Calls Yba.prog 5 #[.pointer (some ⟨g, 0, none⟩), .slice ad n cap, .int .u64 7] w fun e w' => e = .returned (.tuple #[]) ∧ Below g w w' ∧ On w' g (fun _ => false) n := by
  obtain ⟨mp, v, hR⟩ := h
  refine (start_any g mp v ad b o n cap hn w hR hH hb hle).mono ?_
  rintro e w' ⟨rfl, h2, B, D, hB, h3, h4, h5⟩
  exact ⟨rfl, h2, 7, B, D, h3, hB, h4, h5⟩

theorem On.mono {w : World} {g N N' : Nat} {f f' : List UInt8 → Bool} (h : On w g f N) (hN : N ≤ N') (hf : ∀ x, f x = f' x) : On w g f' N' := by
  obtain ⟨v, B, D, hR, hB, ho, ha⟩ := h
  exact ⟨v, B, D, hR, hB, ho.mono hN, fun x => by rw [ha, hf]⟩

theorem Helds.below {w w' : World} {ad : Option Addr} {b o n : Nat} {h : Nat → ByteArray} (hH : Helds w ad b o n h) (hb : 0 < n → b < w.heap.size) (hw : Below w.heap.size w w') : Helds w' ad b o n h :=
  ⟨hH.at0, fun i hi => (hw.cell (p := ⟨b, o + i, none⟩) (hb (by omega))).trans (hH.cell i hi), hH.len⟩

/-- A script that came in. -/
structure Script (w : World) (ad : Option Addr) (b o n : Nat) (op : Nat → Nat) (nm : Nat → ByteArray) (vl : Nat → Bool) : Prop where
  at0 : 0 < n → ad = some ⟨b, o, none⟩
  lt : 0 < n → b < w.heap.size
  c0 : ∀ i, i < n → w.cell? ⟨b, o + i * 3, none⟩ = some (.int .u8 (op i))
  c1 : ∀ i, i < n → w.cell? ⟨b, o + i * 3 + 1, none⟩ = some (.string (nm i))
  c2 : ∀ i, i < n → w.cell? ⟨b, o + i * 3 + 2, none⟩ = some (.bool (vl i))
  opB : ∀ i, i < n → op i < 256
  len : ∀ i, i < n → (nm i).size ≤ maxLen

set_option maxRecDepth 20000 in
set_option maxHeartbeats 4000000 in
theorem last3 (ah : Option Addr) (bh oh nh ch : Nat) (hd : Nat → ByteArray) (ad : Option Addr) (b o n cap : Nat) (op : Nat → Nat) (nm : Nat → ByteArray) (vl : Nat → Bool) (x : ByteArray) (sel : Nat) (w : World)
    (hH : Helds w ah bh oh nh hd) (hbh : 0 < nh → bh < w.heap.size) (hS : Script w ad b o n op nm vl) (hx : x.size ≤ maxLen) (hsel : sel < 256) :
    Calls Yba.prog 3 #[.slice ah nh ch, .slice ad n cap, .string x, .int .u8 sel] w fun e w' => e = .returned (.bool true) ∧ Below w.heap.size w w' := by
  by_cases h1 : 1024 < nh
  · have h1' : (1024 : Int) < (nh : Int) := by omega
    go_enter Yba.func3, Yba.ntmps3
    go_wp2
    go_ret
    exact ⟨rfl, Below.refl _ _⟩
  have h1' : ¬ (1024 : Int) < (nh : Int) := by omega
  by_cases h2 : 1024 < n
  · have h2' : (1024 : Int) < (n : Int) := by omega
    go_enter Yba.func3, Yba.ntmps3
    go_wp2
    go_ret
    exact ⟨rfl, Below.refl _ _⟩
  have h2' : ¬ (1024 : Int) < (n : Int) := by omega
  obtain ⟨W0, hW0⟩ : ∃ W0, W0 = w.alloc (.cells #[.int .i32 0, .int .u32 0, .map none, .int .u64 0] 38) := ⟨_, rfl⟩
  have hoff : Off W0 w.heap.size := ⟨0, by
    rw [hW0]
    show (w.heap.push _)[w.heap.size]? = _
    simp⟩
  have hbel0 : Below w.heap.size w W0 := by rw [hW0]; exact (Below.refl _ _).alloc (Nat.le_refl _) _
  by_cases h3 : sel = 0
  · subst h3
    have hhold := hold_off w.heap.size x W0 hoff hx
    rw [hW0] at hhold
    go_enter Yba.func3, Yba.ntmps3
    go_wp2_with fail
    refine hhold.mono ?_
    clear hhold
    rintro _ w1 ⟨rfl, hb1, hoff1⟩
    rw [← hW0] at hb1
    have hB1 : Below w.heap.size w w1 := hbel0.trans hb1
    have hst := start_on w.heap.size ah bh oh nh ch hd w1 hoff1.any (hH.below hbh hB1) hbh (by omega)
    go_wp2_with fail
    refine hst.mono ?_
    clear hst
    rintro _ w2 ⟨rfl, hb2, hon2⟩
    have hB2 : Below w.heap.size w w2 := hB1.trans hb2
    clear hb2 hb1 hB1 hoff1 hoff hbel0 hW0
    go_wp2
    go_loopw [11, 12, 53] (fun r m i wr => ∃ (k : Nat) (q : Bool) (m0 : Nat), k ≤ n ∧ r = .bool q ∧ m = .int .i64 m0 ∧ i = .int .i64 k ∧ m0 ≤ k ∧ Below w.heap.size w wr ∧
        (q = true → On wr w.heap.size (fun z => lastNote op nm vl m0 z k) (1024 + k)) ∧ (q = false → Off wr w.heap.size)) (fun _ _ i _ => n - (intOf i).toNat)
    case atStart => exact ⟨0, true, 0, Nat.zero_le _, rfl, rfl, rfl, Nat.le_refl _, hB2, fun _ => hon2.mono (by omega) (fun z => rfl), fun h => by cases h⟩
    case round =>
      obtain ⟨k, q, m0, hk, rfl, rfl, rfl, hmk, hbel, hOn, hOff⟩ := hrel
      by_cases hlt : k < n
      · have had := hS.at0 (by omega)
        subst had
        have hbl := hS.lt (by omega)
        have d0 := (hbel.cell (p := ⟨b, o + k * 3, none⟩) hbl).trans (hS.c0 k hlt)
        have d1 := (hbel.cell (p := ⟨b, o + k * 3 + 1, none⟩) hbl).trans (hS.c1 k hlt)
        have d2 := (hbel.cell (p := ⟨b, o + k * 3 + 2, none⟩) hbl).trans (hS.c2 k hlt)
        have hop := hS.opB k hlt
        have hnl := hS.len k hlt
        have hgw : w.heap.size < wr.heap.size := by
          cases q
          · obtain ⟨v, hR⟩ := hOff rfl; exact hR.lt
          · exact (hOn rfl).lt
        have hany : Any wr w.heap.size := by
          cases q
          · exact (hOff rfl).any
          · exact (hOn rfl).any
        have hr4 : op k % 4 < 4 := Nat.mod_lt _ (by omega)
        have htm : ((op k : Int)).tmod 4 = ((op k % 4 : Nat) : Int) := by rw [Int.tmod_eq_emod_of_nonneg (by omega)]; omega
        obtain ⟨r4, hr4e⟩ : ∃ r4, r4 = op k % 4 := ⟨_, rfl⟩
        have HR4 : Hid (r4 = op k % 4) := hr4e
        rw [← hr4e] at htm hr4
        clear hr4e
        have hcase : r4 = 0 ∨ r4 = 1 ∨ r4 = 2 ∨ r4 = 3 := by omega
        clear hr4
        rcases hcase with rfl | rfl | rfl | rfl
        · cases q
          · have ho := hOff rfl
            clear hOn hOff hany
            go_wp2_with fail
            refine (add_off w.heap.size (nm k) (vl k) _ (ho.alloc _)).mono ?_
            rintro _ w3 ⟨rfl, hb3, ho3⟩
            go_wp2
            go_roundw
            case rel => exact ⟨k + 1, false, m0, by omega, rfl, rfl, by go_num, by omega, (hbel.alloc (Nat.le_of_lt hgw) _).trans hb3, fun h => (by cases h), fun _ => ho3⟩
            case measure => simp [intOf]; omega
          · have ho := hOn rfl
            clear hOn hOff hany
            go_wp2_with fail
            refine (add_on w.heap.size (1024 + k) _ (nm k) (vl k) _ (ho.alloc _) (by unfold maxLen; omega) hnl).mono ?_
            rintro _ w3 ⟨rfl, hb3, ho3⟩
            go_wp2
            go_roundw
            case rel => exact ⟨k + 1, true, m0, by omega, rfl, rfl, by go_num, by omega, (hbel.alloc (Nat.le_of_lt hgw) _).trans hb3, fun _ => ho3.mono (by omega) (fun z => last_hit hmk (by have := HR4.out; omega) z), fun h => (by cases h)⟩
            case measure => simp [intOf]; omega
        · cases q
          · have ho := hOff rfl
            clear hOn hOff hany
            go_wp2_with fail
            refine (add_off w.heap.size (nm k) (vl k) _ (ho.alloc _)).mono ?_
            rintro _ w3 ⟨rfl, hb3, ho3⟩
            go_wp2
            go_roundw
            case rel => exact ⟨k + 1, false, m0, by omega, rfl, rfl, by go_num, by omega, (hbel.alloc (Nat.le_of_lt hgw) _).trans hb3, fun h => (by cases h), fun _ => ho3⟩
            case measure => simp [intOf]; omega
          · have ho := hOn rfl
            clear hOn hOff hany
            go_wp2_with fail
            refine (add_on w.heap.size (1024 + k) _ (nm k) (vl k) _ (ho.alloc _) (by unfold maxLen; omega) hnl).mono ?_
            rintro _ w3 ⟨rfl, hb3, ho3⟩
            go_wp2
            go_roundw
            case rel => exact ⟨k + 1, true, m0, by omega, rfl, rfl, by go_num, by omega, (hbel.alloc (Nat.le_of_lt hgw) _).trans hb3, fun _ => ho3.mono (by omega) (fun z => last_hit hmk (by have := HR4.out; omega) z), fun h => (by cases h)⟩
            case measure => simp [intOf]; omega
        · clear hOn hOff
          go_wp2_with fail
          refine (stop_off w.heap.size _ (hany.alloc _)).mono ?_
          rintro _ w3 ⟨rfl, hb3, ho3⟩
          go_wp2
          go_roundw
          case rel => exact ⟨k + 1, false, m0, by omega, rfl, rfl, by go_num, by omega, (hbel.alloc (Nat.le_of_lt hgw) _).trans hb3, fun h => (by cases h), fun _ => ho3⟩
          case measure => simp [intOf]; omega
        · clear hOn hOff
          go_wp2_with fail
          refine (start_on w.heap.size ah bh oh nh ch hd _ (hany.alloc _) (hH.below hbh (hbel.alloc (Nat.le_of_lt hgw) _)) hbh (by omega)).mono ?_
          rintro _ w3 ⟨rfl, hb3, ho3⟩
          go_wp2
          go_roundw
          case rel => exact ⟨k + 1, true, k + 1, by omega, rfl, by go_num, by go_num, by omega, (hbel.alloc (Nat.le_of_lt hgw) _).trans hb3, fun _ => ho3.mono (by omega) (fun z => (lastNote_le op nm vl (k + 1) z (k + 1) (Nat.le_refl _)).symm), fun h => (by cases h)⟩
          case measure => simp [intOf]; omega
      · have hkn : k = n := by omega
        subst hkn
        cases q
        · have ho := hOff rfl
          clear hOn hOff
          go_wp2_with fail
          refine (hold_off w.heap.size x _ ho hx).mono ?_
          rintro _ w3 ⟨rfl, hb3, _⟩
          go_wp2
          go_ret
          exact ⟨rfl, hbel.trans hb3⟩
        · have ho := hOn rfl
          clear hOn hOff
          go_wp2
          go_loop [15, 16] (fun d j => ∃ (q : Nat) (z : Int), d = .bool false ∧ j = .int .i64 z ∧ z = (q : Int) - 1 ∧ q ≤ k ∧ lastNote op nm vl m0 x.data.toList k = lastNote op nm vl m0 x.data.toList q) (fun _ j => (intOf j + 1).toNat)
          case atStart => exact ⟨k, (k : Int) - 1, rfl, rfl, rfl, Nat.le_refl _, rfl⟩
          case round =>
            obtain ⟨q, z, rfl, rfl, hz, hqk, hlast⟩ := hrel
            have HL : Hid (lastNote op nm vl m0 x.data.toList k = lastNote op nm vl m0 x.data.toList q) := hlast
            clear hlast
            by_cases hq : m0 < q
            · obtain ⟨y, rfl⟩ : ∃ y, q = y + 1 := ⟨q - 1, by omega⟩
              obtain rfl : z = (y : Int) := by omega
              clear hz
              have had := hS.at0 (by omega)
              subst had
              have hbl := hS.lt (by omega)
              have d0 := (hbel.cell (p := ⟨b, o + y * 3, none⟩) hbl).trans (hS.c0 y (by omega))
              have d1 := (hbel.cell (p := ⟨b, o + y * 3 + 1, none⟩) hbl).trans (hS.c1 y (by omega))
              have d2 := (hbel.cell (p := ⟨b, o + y * 3 + 2, none⟩) hbl).trans (hS.c2 y (by omega))
              have hop := hS.opB y (by omega)
              have htm : ((op y : Int)).tmod 4 = ((op y % 4 : Nat) : Int) := by rw [Int.tmod_eq_emod_of_nonneg (by omega)]; omega
              obtain ⟨r4, hr4e⟩ : ∃ r4, r4 = op y % 4 := ⟨_, rfl⟩
              have HR4 : Hid (r4 = op y % 4) := hr4e
              have hr4 : r4 < 4 := by omega
              rw [← hr4e] at htm
              clear hr4e
              by_cases ho2 : r4 < 2
              · have ho2' : (r4 : Int) < 2 := by omega
                by_cases hnm : nm y = x
                · have hv : lastNote op nm vl m0 x.data.toList k = vl y := by
                    rw [HL.out]
                    unfold lastNote
                    rw [if_pos ⟨by omega, by have := HR4.out; omega, by rw [hnm]⟩]
                  have HV : Hid _ := hv
                  rw [hnm] at d1
                  clear hnm hv
                  have hc := hold_on w.heap.size (1024 + k) _ x wr ho hx
                  rw [HV.out] at hc
                  go_wp2_with fail
                  refine hc.mono ?_
                  rintro _ w3 ⟨rfl, hb3⟩
                  cases hvy : vl y
                  all_goals
                    go_wp2
                    go_ret
                    exact ⟨rfl, hbel.trans hb3⟩
                · have hne := str_ne hnm
                  have hv : lastNote op nm vl m0 x.data.toList (y + 1) = lastNote op nm vl m0 x.data.toList y := by
                    rw [lastNote_succ, if_neg (fun h => hnm (bytes_inj h.2.2))]
                  have HV : Hid _ := hv
                  clear hnm hv
                  go_wp2
                  go_round
                  case rel => exact ⟨y, (y : Int) - 1, rfl, by go_num, rfl, by omega, HL.out.trans HV.out⟩
                  case measure => simp [intOf]
              · have ho2' : ¬ (r4 : Int) < 2 := by omega
                have hv : lastNote op nm vl m0 x.data.toList (y + 1) = lastNote op nm vl m0 x.data.toList y := by
                  rw [lastNote_succ, if_neg (fun h => ho2 (by rw [HR4.out]; exact h.2.1))]
                have HV : Hid _ := hv
                clear hv
                go_wp2
                go_round
                case rel => exact ⟨y, (y : Int) - 1, rfl, by go_num, rfl, by omega, HL.out.trans HV.out⟩
                case measure => simp [intOf]
            · have hv : lastNote op nm vl m0 x.data.toList k = false := by
                rw [HL.out]
                exact lastNote_le _ _ _ _ _ _ (by omega)
              have hzm : ¬ (m0 : Int) ≤ z := by omega
              have hc := hold_on w.heap.size (1024 + k) _ x wr ho hx
              rw [hv] at hc
              clear hv
              go_wp2_with fail
              refine hc.mono ?_
              rintro _ w3 ⟨rfl, hb3⟩
              go_wp2
              go_ret
              exact ⟨rfl, hbel.trans hb3⟩
  have h3' : (0 : Int) < (sel : Int) := by omega
  by_cases h4 : n = 0
  · have h4' : ¬ (0 : Int) < (n : Int) := by omega
    clear h4
    have hhold := hold_off w.heap.size x W0 hoff hx
    rw [hW0] at hhold
    go_enter Yba.func3, Yba.ntmps3
    go_wp2_with fail
    refine hhold.mono ?_
    clear hhold
    rintro _ w1 ⟨rfl, hb1, hoff1⟩
    rw [← hW0] at hb1
    have hB1 : Below w.heap.size w w1 := hbel0.trans hb1
    have hst := start_on w.heap.size ah bh oh nh ch hd w1 hoff1.any (hH.below hbh hB1) hbh (by omega)
    go_wp2_with fail
    refine hst.mono ?_
    clear hst
    rintro _ w2 ⟨rfl, hb2, hon2⟩
    have hB2 : Below w.heap.size w w2 := hB1.trans hb2
    clear hb2 hb1 hB1 hoff1 hoff hbel0 hW0
    go_wp2
    go_loopw [11, 12, 53] (fun r m i wr => ∃ (k : Nat) (q : Bool) (m0 : Nat), k ≤ n ∧ r = .bool q ∧ m = .int .i64 m0 ∧ i = .int .i64 k ∧ m0 ≤ k ∧ Below w.heap.size w wr ∧
        (q = true → On wr w.heap.size (fun z => lastNote op nm vl m0 z k) (1024 + k)) ∧ (q = false → Off wr w.heap.size)) (fun _ _ i _ => n - (intOf i).toNat)
    case atStart => exact ⟨0, true, 0, Nat.zero_le _, rfl, rfl, rfl, Nat.le_refl _, hB2, fun _ => hon2.mono (by omega) (fun z => rfl), fun h => by cases h⟩
    case round =>
      obtain ⟨k, q, m0, hk, rfl, rfl, rfl, hmk, hbel, hOn, hOff⟩ := hrel
      by_cases hlt : k < n
      · exact absurd hlt (by omega)
      · have hkn : k = n := by omega
        subst hkn
        cases q
        · have ho := hOff rfl
          clear hOn hOff
          go_wp2_with fail
          refine (hold_off w.heap.size x _ ho hx).mono ?_
          rintro _ w3 ⟨rfl, hb3, _⟩
          go_wp2
          go_ret
          exact ⟨rfl, hbel.trans hb3⟩
        · have ho := hOn rfl
          clear hOn hOff
          go_wp2
          go_loop [15, 16] (fun d j => ∃ (q : Nat) (z : Int), d = .bool false ∧ j = .int .i64 z ∧ z = (q : Int) - 1 ∧ q ≤ k ∧ lastNote op nm vl m0 x.data.toList k = lastNote op nm vl m0 x.data.toList q) (fun _ j => (intOf j + 1).toNat)
          case atStart => exact ⟨k, (k : Int) - 1, rfl, rfl, rfl, Nat.le_refl _, rfl⟩
          case round =>
            obtain ⟨q, z, rfl, rfl, hz, hqk, hlast⟩ := hrel
            have HL : Hid (lastNote op nm vl m0 x.data.toList k = lastNote op nm vl m0 x.data.toList q) := hlast
            clear hlast
            by_cases hq : m0 < q
            · exact absurd hq (by omega)
            · have hv : lastNote op nm vl m0 x.data.toList k = false := by
                rw [HL.out]
                exact lastNote_le _ _ _ _ _ _ (by omega)
              have hzm : ¬ (m0 : Int) ≤ z := by omega
              have hc := hold_on w.heap.size (1024 + k) _ x wr ho hx
              rw [hv] at hc
              clear hv
              go_wp2_with fail
              refine hc.mono ?_
              rintro _ w3 ⟨rfl, hb3⟩
              go_wp2
              go_ret
              exact ⟨rfl, hbel.trans hb3⟩
  · have h4' : (0 : Int) < (n : Int) := by omega
    have had := hS.at0 (by omega)
    subst had
    obtain ⟨x0, hx0⟩ : ∃ x0, x0 = x := ⟨_, rfl⟩
    subst hx0
    obtain ⟨i0, hi0⟩ : ∃ i0, i0 = (sel - 1) % n := ⟨_, rfl⟩
    have hi0n : i0 < n := by rw [hi0]; exact Nat.mod_lt _ (by omega)
    have g1 := hS.c1 i0 hi0n
    have hw8 : IntKind.u8.wrap ((sel : Int) - 1) = (sel : Int) - 1 := by
      simp [IntKind.wrap, IntKind.signed, IntKind.bits]
      omega
    have htm0 : ((sel : Int) - 1).tmod (n : Int) = (i0 : Int) := by
      rw [Int.tmod_eq_emod_of_nonneg (by omega), hi0]
      have e : ((sel : Int) - 1) = ((sel - 1 : Nat) : Int) := by omega
      rw [e]
      exact (Int.natCast_emod _ _).symm
    clear hi0 hx
    have hx := hS.len i0 hi0n
    obtain ⟨x, hxx⟩ : ∃ x, x = nm i0 := ⟨_, rfl⟩
    rw [← hxx] at g1 hx
    clear hxx
    have hhold := hold_off w.heap.size x W0 hoff hx
    rw [hW0] at hhold
    go_enter Yba.func3, Yba.ntmps3
    go_wp2_with fail
    refine hhold.mono ?_
    clear hhold
    rintro _ w1 ⟨rfl, hb1, hoff1⟩
    rw [← hW0] at hb1
    have hB1 : Below w.heap.size w w1 := hbel0.trans hb1
    have hst := start_on w.heap.size ah bh oh nh ch hd w1 hoff1.any (hH.below hbh hB1) hbh (by omega)
    go_wp2_with fail
    refine hst.mono ?_
    clear hst
    rintro _ w2 ⟨rfl, hb2, hon2⟩
    have hB2 : Below w.heap.size w w2 := hB1.trans hb2
    clear hb2 hb1 hB1 hoff1 hoff hbel0 hW0
    go_wp2
    go_loopw [11, 12, 53] (fun r m i wr => ∃ (k : Nat) (q : Bool) (m0 : Nat), k ≤ n ∧ r = .bool q ∧ m = .int .i64 m0 ∧ i = .int .i64 k ∧ m0 ≤ k ∧ Below w.heap.size w wr ∧
        (q = true → On wr w.heap.size (fun z => lastNote op nm vl m0 z k) (1024 + k)) ∧ (q = false → Off wr w.heap.size)) (fun _ _ i _ => n - (intOf i).toNat)
    case atStart => exact ⟨0, true, 0, Nat.zero_le _, rfl, rfl, rfl, Nat.le_refl _, hB2, fun _ => hon2.mono (by omega) (fun z => rfl), fun h => by cases h⟩
    case round =>
      obtain ⟨k, q, m0, hk, rfl, rfl, rfl, hmk, hbel, hOn, hOff⟩ := hrel
      by_cases hlt : k < n
      · have hbl := hS.lt (by omega)
        have d0 := (hbel.cell (p := ⟨b, o + k * 3, none⟩) hbl).trans (hS.c0 k hlt)
        have d1 := (hbel.cell (p := ⟨b, o + k * 3 + 1, none⟩) hbl).trans (hS.c1 k hlt)
        have d2 := (hbel.cell (p := ⟨b, o + k * 3 + 2, none⟩) hbl).trans (hS.c2 k hlt)
        have hop := hS.opB k hlt
        have hnl := hS.len k hlt
        have hgw : w.heap.size < wr.heap.size := by
          cases q
          · obtain ⟨v, hR⟩ := hOff rfl; exact hR.lt
          · exact (hOn rfl).lt
        have hany : Any wr w.heap.size := by
          cases q
          · exact (hOff rfl).any
          · exact (hOn rfl).any
        have hr4 : op k % 4 < 4 := Nat.mod_lt _ (by omega)
        have htm : ((op k : Int)).tmod 4 = ((op k % 4 : Nat) : Int) := by rw [Int.tmod_eq_emod_of_nonneg (by omega)]; omega
        obtain ⟨r4, hr4e⟩ : ∃ r4, r4 = op k % 4 := ⟨_, rfl⟩
        have HR4 : Hid (r4 = op k % 4) := hr4e
        rw [← hr4e] at htm hr4
        clear hr4e
        have hcase : r4 = 0 ∨ r4 = 1 ∨ r4 = 2 ∨ r4 = 3 := by omega
        clear hr4
        rcases hcase with rfl | rfl | rfl | rfl
        · cases q
          · have ho := hOff rfl
            clear hOn hOff hany
            go_wp2_with fail
            refine (add_off w.heap.size (nm k) (vl k) _ (ho.alloc _)).mono ?_
            rintro _ w3 ⟨rfl, hb3, ho3⟩
            go_wp2
            go_roundw
            case rel => exact ⟨k + 1, false, m0, by omega, rfl, rfl, by go_num, by omega, (hbel.alloc (Nat.le_of_lt hgw) _).trans hb3, fun h => (by cases h), fun _ => ho3⟩
            case measure => simp [intOf]; omega
          · have ho := hOn rfl
            clear hOn hOff hany
            go_wp2_with fail
            refine (add_on w.heap.size (1024 + k) _ (nm k) (vl k) _ (ho.alloc _) (by unfold maxLen; omega) hnl).mono ?_
            rintro _ w3 ⟨rfl, hb3, ho3⟩
            go_wp2
            go_roundw
            case rel => exact ⟨k + 1, true, m0, by omega, rfl, rfl, by go_num, by omega, (hbel.alloc (Nat.le_of_lt hgw) _).trans hb3, fun _ => ho3.mono (by omega) (fun z => last_hit hmk (by have := HR4.out; omega) z), fun h => (by cases h)⟩
            case measure => simp [intOf]; omega
        · cases q
          · have ho := hOff rfl
            clear hOn hOff hany
            go_wp2_with fail
            refine (add_off w.heap.size (nm k) (vl k) _ (ho.alloc _)).mono ?_
            rintro _ w3 ⟨rfl, hb3, ho3⟩
            go_wp2
            go_roundw
            case rel => exact ⟨k + 1, false, m0, by omega, rfl, rfl, by go_num, by omega, (hbel.alloc (Nat.le_of_lt hgw) _).trans hb3, fun h => (by cases h), fun _ => ho3⟩
            case measure => simp [intOf]; omega
          · have ho := hOn rfl
            clear hOn hOff hany
            go_wp2_with fail
            refine (add_on w.heap.size (1024 + k) _ (nm k) (vl k) _ (ho.alloc _) (by unfold maxLen; omega) hnl).mono ?_
            rintro _ w3 ⟨rfl, hb3, ho3⟩
            go_wp2
            go_roundw
            case rel => exact ⟨k + 1, true, m0, by omega, rfl, rfl, by go_num, by omega, (hbel.alloc (Nat.le_of_lt hgw) _).trans hb3, fun _ => ho3.mono (by omega) (fun z => last_hit hmk (by have := HR4.out; omega) z), fun h => (by cases h)⟩
            case measure => simp [intOf]; omega
        · clear hOn hOff
          go_wp2_with fail
          refine (stop_off w.heap.size _ (hany.alloc _)).mono ?_
          rintro _ w3 ⟨rfl, hb3, ho3⟩
          go_wp2
          go_roundw
          case rel => exact ⟨k + 1, false, m0, by omega, rfl, rfl, by go_num, by omega, (hbel.alloc (Nat.le_of_lt hgw) _).trans hb3, fun h => (by cases h), fun _ => ho3⟩
          case measure => simp [intOf]; omega
        · clear hOn hOff
          go_wp2_with fail
          refine (start_on w.heap.size ah bh oh nh ch hd _ (hany.alloc _) (hH.below hbh (hbel.alloc (Nat.le_of_lt hgw) _)) hbh (by omega)).mono ?_
          rintro _ w3 ⟨rfl, hb3, ho3⟩
          go_wp2
          go_roundw
          case rel => exact ⟨k + 1, true, k + 1, by omega, rfl, by go_num, by go_num, by omega, (hbel.alloc (Nat.le_of_lt hgw) _).trans hb3, fun _ => ho3.mono (by omega) (fun z => (lastNote_le op nm vl (k + 1) z (k + 1) (Nat.le_refl _)).symm), fun h => (by cases h)⟩
          case measure => simp [intOf]; omega
      · have hkn : k = n := by omega
        subst hkn
        cases q
        · have ho := hOff rfl
          clear hOn hOff
          go_wp2_with fail
          refine (hold_off w.heap.size x _ ho hx).mono ?_
          rintro _ w3 ⟨rfl, hb3, _⟩
          go_wp2
          go_ret
          exact ⟨rfl, hbel.trans hb3⟩
        · have ho := hOn rfl
          clear hOn hOff
          go_wp2
          go_loop [15, 16] (fun d j => ∃ (q : Nat) (z : Int), d = .bool false ∧ j = .int .i64 z ∧ z = (q : Int) - 1 ∧ q ≤ k ∧ lastNote op nm vl m0 x.data.toList k = lastNote op nm vl m0 x.data.toList q) (fun _ j => (intOf j + 1).toNat)
          case atStart => exact ⟨k, (k : Int) - 1, rfl, rfl, rfl, Nat.le_refl _, rfl⟩
          case round =>
            obtain ⟨q, z, rfl, rfl, hz, hqk, hlast⟩ := hrel
            have HL : Hid (lastNote op nm vl m0 x.data.toList k = lastNote op nm vl m0 x.data.toList q) := hlast
            clear hlast
            by_cases hq : m0 < q
            · obtain ⟨y, rfl⟩ : ∃ y, q = y + 1 := ⟨q - 1, by omega⟩
              obtain rfl : z = (y : Int) := by omega
              clear hz
              have hbl := hS.lt (by omega)
              have d0 := (hbel.cell (p := ⟨b, o + y * 3, none⟩) hbl).trans (hS.c0 y (by omega))
              have d1 := (hbel.cell (p := ⟨b, o + y * 3 + 1, none⟩) hbl).trans (hS.c1 y (by omega))
              have d2 := (hbel.cell (p := ⟨b, o + y * 3 + 2, none⟩) hbl).trans (hS.c2 y (by omega))
              have hop := hS.opB y (by omega)
              have htm : ((op y : Int)).tmod 4 = ((op y % 4 : Nat) : Int) := by rw [Int.tmod_eq_emod_of_nonneg (by omega)]; omega
              obtain ⟨r4, hr4e⟩ : ∃ r4, r4 = op y % 4 := ⟨_, rfl⟩
              have HR4 : Hid (r4 = op y % 4) := hr4e
              have hr4 : r4 < 4 := by omega
              rw [← hr4e] at htm
              clear hr4e
              by_cases ho2 : r4 < 2
              · have ho2' : (r4 : Int) < 2 := by omega
                by_cases hnm : nm y = x
                · have hv : lastNote op nm vl m0 x.data.toList k = vl y := by
                    rw [HL.out]
                    unfold lastNote
                    rw [if_pos ⟨by omega, by have := HR4.out; omega, by rw [hnm]⟩]
                  have HV : Hid _ := hv
                  rw [hnm] at d1
                  clear hnm hv
                  have hc := hold_on w.heap.size (1024 + k) _ x wr ho hx
                  rw [HV.out] at hc
                  go_wp2_with fail
                  refine hc.mono ?_
                  rintro _ w3 ⟨rfl, hb3⟩
                  cases hvy : vl y
                  all_goals
                    go_wp2
                    go_ret
                    exact ⟨rfl, hbel.trans hb3⟩
                · have hne := str_ne hnm
                  have hv : lastNote op nm vl m0 x.data.toList (y + 1) = lastNote op nm vl m0 x.data.toList y := by
                    rw [lastNote_succ, if_neg (fun h => hnm (bytes_inj h.2.2))]
                  have HV : Hid _ := hv
                  clear hnm hv
                  go_wp2
                  go_round
                  case rel => exact ⟨y, (y : Int) - 1, rfl, by go_num, rfl, by omega, HL.out.trans HV.out⟩
                  case measure => simp [intOf]
              · have ho2' : ¬ (r4 : Int) < 2 := by omega
                have hv : lastNote op nm vl m0 x.data.toList (y + 1) = lastNote op nm vl m0 x.data.toList y := by
                  rw [lastNote_succ, if_neg (fun h => ho2 (by rw [HR4.out]; exact h.2.1))]
                have HV : Hid _ := hv
                clear hv
                go_wp2
                go_round
                case rel => exact ⟨y, (y : Int) - 1, rfl, by go_num, rfl, by omega, HL.out.trans HV.out⟩
                case measure => simp [intOf]
            · have hv : lastNote op nm vl m0 x.data.toList k = false := by
                rw [HL.out]
                exact lastNote_le _ _ _ _ _ _ (by omega)
              have hzm : ¬ (m0 : Int) ≤ z := by omega
              have hc := hold_on w.heap.size (1024 + k) _ x wr ho hx
              rw [hv] at hc
              clear hv
              go_wp2_with fail
              refine hc.mono ?_
              rintro _ w3 ⟨rfl, hb3⟩
              go_wp2
              go_ret
              exact ⟨rfl, hbel.trans hb3⟩
end Go.Proofs.Ybulkcuzu
