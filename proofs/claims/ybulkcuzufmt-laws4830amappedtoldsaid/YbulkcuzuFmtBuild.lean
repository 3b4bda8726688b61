/- zzs4830abuild (function 7): the map that it makes. -/
import Derived.Test.YbulkcuzuFmtExpect
import Derived.Maps.RangeWalk
import Derived.Maps.Views
import Derived.Maps.OwnOps
import Derived.Laws.CopyOwn
import Derived.OwnWalk
import Derived.WideShapes
namespace Go.Proofs
theorem Ybaf.law9 : Maps.Keyed Ybaf.prog 9 := Maps.string_keyed Ybaf.underlying9
theorem Ybaf.mk34 (w : World) (n : Nat) : (Instr.makeMap 34 (some (.int .i64 n))).run Ybaf.prog w = .ok (.map (some w.heap.size)) (w.alloc (.map #[] 0)) := by
  simp [Instr.makeMap, run_underlying Ybaf.underlying34, asInt, asIntOf, Result.andThen]
namespace YbulkcuzuFmt
open Go.RowKit Go.Maps
set_option linter.unusedVariables false

theorem Ybaf.info9 : (Ybaf.prog.info? 9).map (fun i => (i.zero, i.size, i.bytes)) = some (some (.string ⟨#[]⟩), 1, 16) := by kernel_rfl
def zeroStr (n : Nat) : Obj := .cells (List.replicate n (Value.string ⟨#[]⟩)).toArray 9
theorem made_one (z : Value) (n : Nat) : madeCells #[z] (n * 1) = (List.replicate n z).toArray := by
  apply Array.ext
  · simp [madeCells]
  · intro i h1 h2
    simp [madeCells, Nat.mod_one]
theorem make_str (n : Nat) (hn : n ≤ 256) (w : World) : (Instr.makeSlice 23 (.int .i64 n) (.int .i64 n)).run Ybaf.prog w = .ok (.slice (some ⟨w.heap.size, 0, none⟩) n n) (w.alloc (zeroStr n)) := by
  obtain ⟨i0, hi, hz0, hz1, hz2⟩ := info_parts Ybaf.info9
  have := run_make (P := Ybaf.prog) w 23 9 i0 _ Ybaf.underlying23 hi hz0 .i64 .i64 n n (by omega) (Int.le_refl _) (by rw [hz2]; omega) (by omega)
  rw [hz1] at this
  unfold zeroStr
  rw [← made_one]
  simpa [Value.cells] using this

/-- How an element of the map reads: the block that its row lies in, and its length. -/
def readS : Value → Option (DataW Unit × List MemPlace)
  | .slice (some ⟨g, 0, none⟩) n m => if n = m then some (.agg [.lit (.int .i64 g), .lit (.int .i64 n)], []) else none
  | _ => none
def mkS (c : Nat × Nat) : Value := .slice (some ⟨c.1, 0, none⟩) c.2 c.2
def elS (g n : Nat) : DataW Unit := .agg [.lit (.int .i64 g), .lit (.int .i64 n)]
theorem readS_mk (g n : Nat) : readS (.slice (some ⟨g, 0, none⟩) n n) = some (elS g n, []) := by simp [readS, elS]
theorem readS_inv (v : Value) (y) (h : readS v = some y) : ∃ c, v = mkS c := by
  unfold readS at h
  split at h
  · next g n m =>
    by_cases e : n = m
    · subst e; exact ⟨(g, n), rfl⟩
    · rw [if_neg e] at h; cases h
  · cases h
theorem elS_inj {g n g' n' : Nat} (h : elS g n = elS g' n') : g = g' ∧ n = n' := by
  simp [elS] at h
  omega

def rowS (S : Nat → Nat → ByteArray) (L : Nat → Nat) (i : Nat) : List Value := (List.range (L i)).map fun j => .string (S i j)
theorem rowS_len (S : Nat → Nat → ByteArray) (L : Nat → Nat) (i : Nat) : (rowS S L i).length = L i := by simp [rowS]
theorem rowS_at (S : Nat → Nat → ByteArray) (L : Nat → Nat) (i j : Nat) (h : j < L i) : (rowS S L i)[j]? = some (.string (S i j)) := by simp [rowS, h]

/-- The map, k entries in: B its block; copy i lies in block G i. -/
structure Made (B k : Nat) (K : Nat → ByteArray) (L : Nat → Nat) (S : Nat → Nat → ByteArray) (w : World) (G : Nat → Nat) (D : DataW Unit) : Prop where
  own : w.ownsMap Ybaf.prog 9 readS B k D
  has : ∀ x : List UInt8, Maps.has D (.string x) = true ↔ ∃ i, i < k ∧ (K i).data.toList = x
  atK : ∀ i, i < k → lastAt k K i → ∀ z, D.atKey (.string (K i).data.toList) z = elS (G i) (L i)
  row : ∀ i, i < k → B < G i ∧ w.heap[G i]? = some (.cells (rowS S L i).toArray 9 (0, 0))

theorem bytes_inj {a b : ByteArray} (h : a.data.toList = b.data.toList) : a = b := by
  cases a; cases b
  simpa using h

theorem own_same {w w' : World} {B k : Nat} {D : DataW Unit} (h : w.ownsMap Ybaf.prog 9 readS B k D) (e : w'.heap[B]? = w.heap[B]?) : w'.ownsMap Ybaf.prog 9 readS B k D := by
  obtain ⟨es, clock, h1, h2⟩ := h
  exact ⟨es, clock, by rw [e]; exact h1, h2⟩

theorem own_lt {w : World} {B k : Nat} {D : DataW Unit} (h : w.ownsMap Ybaf.prog 9 readS B k D) : B < w.heap.size := h.lt

theorem row_lt {w : World} {g : Nat} {x : Obj} (h : w.heap[g]? = some x) : g < w.heap.size := by
  rcases Nat.lt_or_ge g w.heap.size with h' | h'
  · exact h'
  · rw [Array.getElem?_eq_none h'] at h; cases h

/-- The next entry is in. -/
theorem made_step {B k g : Nat} {K : Nat → ByteArray} {L : Nat → Nat} {S : Nat → Nat → ByteArray} {w w1 w2 : World} {G : Nat → Nat} {D : DataW Unit} (hM : Made B k K L S w G D)
    (hb : Below w.heap.size w w1) (hg : w.heap.size ≤ g) (hBg : B < g) (hrow : w1.heap[g]? = some (.cells (rowS S L k).toArray 9 (0, 0))) (hgr : w1.grownBy w2 (some B)) (hown : w2.ownsMap Ybaf.prog 9 readS B (k + 1) (D.put (.string (K k).data.toList) (elS g (L k)))) :
    Made B (k + 1) K L S w2 (fun i => if i = k then g else G i) (D.put (.string (K k).data.toList) (elS g (L k))) := by
  have hlit : WideAt.IsKeyLit (.string (K k).data.toList) := trivial
  have hmap : IsMap D := by obtain ⟨es, clock, _, _, _, rfl⟩ := hM.own; exact ⟨_, rfl⟩
  refine ⟨hown, fun x => ?_, fun i hi hl z => ?_, fun i hi => ?_⟩
  · by_cases e : x = (K k).data.toList
    · subst e
      exact ⟨fun _ => ⟨k, by omega, rfl⟩, fun _ => has_put_same hmap hlit _⟩
    · rw [has_put_other (fun h => e (by simpa using h)), hM.has]
      refine ⟨fun ⟨i, hi, h⟩ => ⟨i, by omega, h⟩, fun ⟨i, hi, h⟩ => ⟨i, ?_, h⟩⟩
      rcases Nat.lt_or_ge i k with h' | h'
      · exact h'
      · obtain rfl : i = k := by omega
        exact absurd h.symm e
  · by_cases e : i = k
    · subst e
      rw [if_pos rfl]
      exact atKey_put_same hmap hlit _ _
    · rw [if_neg e, atKey_put_other (fun h => hl k (by omega) (by omega) (bytes_inj (by simpa using h.symm)))]
      exact hM.atK i (by omega) (fun j h1 h2 => hl j h1 (by omega)) z
  · by_cases e : i = k
    · subst e
      rw [if_pos rfl]
      refine ⟨hBg, ?_⟩
      rw [hgr.block g (row_lt hrow) (fun h => by simp at h; omega)]
      exact hrow
    · rw [if_neg e]
      have h1 := hM.row i (by omega)
      refine ⟨h1.1, ?_⟩
      have h2 := row_lt h1.2
      rw [hgr.block (G i) (by have := hb.size; omega) (fun h => by simp at h; omega), hb.block (G i) (by omega)]
      exact h1.2

theorem size_alloc (w : World) (x : Obj) : (w.alloc x).heap.size = w.heap.size + 1 := by
  show (w.heap.push x).size = _
  simp
theorem heap_second (w : World) (x y : Obj) : ((w.alloc x).alloc y).heap[w.heap.size + 1]? = some y := by
  show ((w.heap.push x).push y)[w.heap.size + 1]? = some y
  rw [Array.getElem?_push, if_pos (by simp)]
theorem heap_first (w : World) (x y : Obj) : ((w.alloc x).alloc y).heap[w.heap.size]? = some x := by
  show ((w.heap.push x).push y)[w.heap.size]? = some x
  simp [Array.getElem?_push]
theorem splice_all {cs : List Value} {z : Value} {n : Nat} (h : cs.length = n) : splice (List.replicate n z) 0 cs = cs := by simp [splice, h]
theorem below_two {w w2 : World} {x y : Obj} (hb : Below (w.heap.size + 1) ((w.alloc x).alloc y) w2) : Below w.heap.size w w2 :=
  (((Below.refl _ _).alloc (Nat.le_refl _) x).alloc (by rw [size_alloc]; omega) y).trans (hb.mono (by omega))
theorem box_cell {w w2 : World} {x : Array Value} {t : TypeId} {y : Obj} (hb : Below (w.heap.size + 1) ((w.alloc (.cells x t)).alloc y) w2) (j : Nat) : w2.cell? ⟨w.heap.size, j, none⟩ = x[j]? := by
  have h1 := hb.block w.heap.size (by omega)
  rw [heap_first] at h1
  exact cell_of_row w2 _ _ _ _ _ h1

set_option maxHeartbeats 2000000 in
theorem build7 (ad : Option Addr) (b o n cap : Nat) (K : Nat → ByteArray) (A : Nat → Option Addr) (AB AO L C : Nat → Nat) (S : Nat → Nat → ByteArray) (w : World)
    (hE : Ents w ad b o n K A AB AO L C S) (h0 : 0 < n) (hbl : b < w.heap.size) (hAB : ∀ i, i < n → 0 < L i → AB i < w.heap.size) :
    Calls Ybaf.prog 7 #[.slice ad n cap] w fun e w' => e = .returned (.map (some w.heap.size)) ∧ Below w.heap.size w w' ∧ ∃ G D, Made w.heap.size n K L S w' G D := by
  have hn := hE.len
  have had := hE.at0 h0
  subst had
  have hz : ((n : Int) == 0) = false := beq_eq_false_iff_ne.2 (by omega)
  have hmm := fun w => Ybaf.mk34 w n
  go_enter Ybaf.func7, Ybaf.ntmps7
  go_wp2
  go_loopw [15] (fun i wr => ∃ k : Nat, k ≤ n ∧ i = .int .i64 k ∧ Below w.heap.size w wr ∧ ∃ G D, Made w.heap.size k K L S wr G D) (fun i _ => n - (intOf i).toNat)
  case atStart =>
    refine ⟨0, Nat.zero_le _, rfl, (Below.refl _ _).alloc (Nat.le_refl _) _, fun _ => 0, .map [], World.ownsMap_made _ _ _ _, fun x => ?_, fun i hi => absurd hi (by omega), fun i hi => absurd hi (by omega)⟩
    exact ⟨fun h => (by cases h), fun ⟨i, hi, _⟩ => absurd hi (by omega)⟩
  case round =>
    obtain ⟨k, hk, rfl, hbel, G, D, hM⟩ := hrel
    by_cases hlt : k < n
    · have gk : wr.cell? ⟨b, o + k * 2, none⟩ = some (.string (K k)) := by rw [hbel.cell (p := ⟨b, o + k * 2, none⟩) hbl]; exact hE.key k hlt
      have gv : wr.cell? ⟨b, o + k * 2 + 1, none⟩ = some (.slice (A k) (L k) (C k)) := by rw [hbel.cell (p := ⟨b, o + k * 2 + 1, none⟩) hbl]; exact hE.val k hlt
      have hL := hE.lens k hlt
      have hkey := WideMaps.keyOf_string_mk (P := Ybaf.prog) Ybaf.underlying9 (hE.keyLen k hlt)
      have hBw := own_lt hM.own
      have hmk := make_str (L k) hL
      have hBr : w.heap.size ≤ wr.heap.size := hbel.size
      have hpos : 0 < (rowS S L k).length → (some (⟨wr.heap.size + 1, 0, none⟩ : Addr)) = some ⟨wr.heap.size + 1, 0, none⟩ ∧ ∃ ad, A k = some ad ∧ ∀ j v, (rowS S L k)[j]? = some v → ((wr.alloc (Obj.cells #[Value.string (K k), Value.slice (A k) (L k) (C k)] 25)).alloc (zeroStr (L k))).cell? (ad.add j) = some v := by
        intro hp
        rw [rowS_len] at hp
        refine ⟨rfl, _, hE.addr k hlt hp, fun j v hj => ?_⟩
        have hjl : j < L k := by
          rcases Nat.lt_or_ge j (L k) with h | h
          · exact h
          · rw [List.getElem?_eq_none (by rw [rowS_len]; exact h)] at hj; cases hj
        rw [rowS_at S L k j hjl] at hj
        have hlt2 := hAB k hlt hp
        have e1 : w.cell? ⟨AB k, AO k + j, none⟩ = some v := by rw [hE.str k hlt j hjl]; exact hj
        have hb3 : Below w.heap.size w ((wr.alloc (Obj.cells #[Value.string (K k), Value.slice (A k) (L k) (C k)] 25)).alloc (zeroStr (L k))) :=
          (hbel.alloc hBr _).alloc (by rw [size_alloc]; omega) _
        rw [← e1, show (⟨AB k, AO k, none⟩ : Addr).add j = ⟨AB k, AO k + j, none⟩ from WideShapes.add_plain _ _ _]
        exact hb3.cell (p := ⟨AB k, AO k + j, none⟩) hlt2
      have hone : ∀ v ∈ rowS S L k, v.oneCell' = true := by
        intro v hv
        unfold rowS at hv
        obtain ⟨j, _, rfl⟩ := List.mem_map.1 hv
        rfl
      have hrl : (rowS S L k).length = Nat.min (L k) (L k) := by rw [rowS_len]; simp
      go_wp2_with (first
        | (refine wpList_copy_splice rfl (.tmp 23) (.tmp 25) 23 23 rfl 9 Ybaf.underlying23 (by kernel_rfl) _ _ _ _ _ _ rfl rfl (wr.heap.size + 1) 0 (List.replicate (L k) (Value.string ⟨#[]⟩)) 9 (heap_second _ _ _) (rowS S L k) hrl hpos (by rw [rowS_len]; simp) hone (wr.heap.size + 1) _ (Below.refl _ _) (Nat.le_refl _) ?_
           intro w2 hg2 hb2
           rw [splice_all (rowS_len S L k)] at hg2
           have hc2 : w2.cell? ⟨wr.heap.size, 0, none⟩ = some (.string (K k)) := box_cell hb2 0
           have hown2 := own_same hM.own ((below_two hb2).block _ hBw))
        | (at_mapUpdate
           refine wpList_mapUpdate_own _ rfl _ _ _ 34 rfl 9 23 Ybaf.law9 Ybaf.underlying34 readS w.heap.size k D rfl hown2 (by unfold maxLen; omega) _ _ _ rfl rfl hkey _ [] (readS_mk _ _) ?_
           intro w3 hown3 hgr3
           go_frame)
        | go_in)
      go_roundw
      case rel => exact ⟨k + 1, by omega, by go_num, (hbel.trans ((below_two hb2).mono hBr)).grown hgr3 (by have := (below_two hb2).size; omega) (fun j hj => by cases hj; exact Nat.le_refl _), _, _, made_step hM (below_two hb2) (by omega) (by omega) hg2.out hgr3 hown3⟩
      case measure => simp [intOf]; omega
    · go_wp2
      go_ret
      obtain rfl : k = n := by omega
      exact ⟨rfl, hbel, G, D, hM⟩
end YbulkcuzuFmt
end Go.Proofs
