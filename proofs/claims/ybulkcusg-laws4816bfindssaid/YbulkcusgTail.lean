/- A region that draws its order: a head of operations that only read or call (a callee may lay blocks of its own and draw), and a tail that is forced: the store at its end. One walk of the text's order serves every order.
   After the library's own two laws, each of which has half of it: Derived/StillTail.lean (a forced tail), Derived/Deep/Quiet.lean (a class of worlds). -/
import Derived.StillTail
import Derived.Deep.Quiet
import Derived.Deep.QuietTactic
import Derived.Below
import Derived.WalkSmall
import Derived.Shelf.SlSortCmp.QuietGrown
namespace Go.Proofs.Ybulkcusg
open Go.RowKit
set_option linter.unusedVariables false

section
variable {P : Program} {ops : Array Oper} {md : Region.Mode} {C : World → Prop}

/-- Whatever order is picked for the head. -/
def wpAnyT (P : Program) (md : Region.Mode) (ops : Array Oper) (C : World → Prop) (n : Nat) (L : Array Bool → Act → Prop) : Nat → Array Bool → Act → Prop
  | 0, listed, a => L listed a
  | f + 1, listed, a => Region.ready md ops listed ≠ [] ∧ ∀ i ∈ Region.ready md ops listed, i < n ∧ qOp P ops C i (wpAnyT P md ops C n L f (listed.setIfInBounds i true)) a

theorem wpAny_of_headT {n g : Nat} {L : Array Bool → Act → Prop} {Q' : Exit → Act → World → Prop} (hL : ∀ listed a w, C w → L listed a → wpAny P md ops Q' g listed a w) :
    ∀ (f : Nat) (listed : Array Bool) (a : Act) (w : World), C w → wpAnyT P md ops C n L f listed a → wpAny P md ops Q' (f + g) listed a w
  | 0, listed, a, w, hw, h => by rw [Nat.zero_add]; exact hL _ _ _ hw h
  | f + 1, listed, a, w, hw, h => by
    rw [show f + 1 + g = (f + g) + 1 by omega]
    exact ⟨fun h0 => absurd h0 h.1, fun i hi => wpOp_of_qOp hw (fun a' w' hw' h' => wpAny_of_headT hL f _ a' w' hw' h') (h.2 i hi).2⟩

theorem wpAnyT_first {n i : Nat} {oi : Oper} {v : Value} {L : Array Bool → Act → Prop} (hi : ops[i]? = some oi) (hsel : ∀ (j : Nat) (o : Oper) cs b, ops[j]? = some o → o.op ≠ .select cs b)
    (hs : Region.sinkB md ops n = true) (hc : Region.chainB md ops n = true) (hn : n < ops.size) (hin : i < n)
    (hdone : ∀ listed a, L listed a → ∀ j ∈ Region.ready md ops listed, n ≤ j) :
    ∀ (f : Nat) (listed : Array Bool) (a : Act), HeadInv md ops n listed →
      (∀ j oj, ops[j]? = some oj → j ≠ i → listed.getD j true = false → (∀ e ∈ oj.after, Region.binds md e = true → e.on ≠ i) → oi.apart ops oj = true) →
      i ∈ Region.ready md ops listed → YieldsIn P ops C oi v a →
      wpAnyT P md ops C n L f (listed.setIfInBounds i true) (a.put oi.dst v) → wpAnyT P md ops C n L (f + 1) listed a := by
  intro f
  induction f with
  | zero =>
    intro listed a inv _ hr hy H
    have hun := (mem_ready.1 hr).1
    refine ⟨fun h => (by rw [h] at hr; cases hr), fun j hj => ?_⟩
    have hjn : j < n := by
      rcases Nat.lt_or_ge j n with h | h
      · exact h
      · exact absurd hj (tail_waits hs hc hn inv _ i rfl hin hun j h)
    refine ⟨hjn, ?_⟩
    by_cases hji : j = i
    · subst hji; exact hy.qOp hi H
    · have := hdone _ _ H j (ready_mono hj hji)
      omega
  | succ f ih =>
    intro listed a inv hfree hr hy H
    have hun := (mem_ready.1 hr).1
    refine ⟨fun h => (by rw [h] at hr; cases hr), fun j hj => ?_⟩
    have hjn : j < n := by
      rcases Nat.lt_or_ge j n with h | h
      · exact h
      · exact absurd hj (tail_waits hs hc hn inv _ i rfl hin hun j h)
    refine ⟨hjn, ?_⟩
    by_cases hji : j = i
    · subst hji; exact hy.qOp hi H
    · have h1 := (H.2 j (ready_mono hj hji)).2
      obtain ⟨hjun, oj, hoj, hall⟩ := mem_ready.1 hj
      have hnot : ∀ e ∈ oj.after, Region.binds md e = true → e.on ≠ i := fun e he hb heq => by
        have h1 := hall e he hb
        rw [heq, getD_both hun] at h1
        cases h1
      have h2 := qOp_put hoj (hfree j oj hoj hji hjun hnot) (fun cs b => hsel i oi cs b hi) (fun cs b => hsel j oj cs b hoj) hy h1
      have hfree' : ∀ k ok, ops[k]? = some ok → k ≠ i → (listed.setIfInBounds j true).getD k true = false →
          (∀ e ∈ ok.after, Region.binds md e = true → e.on ≠ i) → oi.apart ops ok = true := fun k ok hk hki hun hno => by
        refine hfree k ok hk hki ?_ hno
        by_cases hjk : j = k
        · subst hjk; exact hjun
        · rw [getD_set_ne true hjk] at hun; exact hun
      refine qOp_mono (fun a' h3 => ih (listed.setIfInBounds j true) a' (inv.set hj hjn) hfree' (ready_mono hr (Ne.symm hji)) h3.1 ?_) h2
      rw [Array.setIfInBounds_comm _ _ hji]
      exact h3.2

theorem wpAnyT_lex {n g : Nat} {Lq : Act → Prop} (hsel : Region.noSelect ops = true) (hs : Region.sinkB md ops n = true) (hc : Region.chainB md ops n = true) (hn : n < ops.size) :
    ∀ (l : List Oper) (k : Nat) (listed : Array Bool) (a : Act), (∀ j, j < l.length → l[j]? = ops[k + j]?) → k + l.length = n → HeadInv md ops n listed →
    Region.lexHead md ops g l.length k listed = true → wpQuiet P ops C Lq l a →
    wpAnyT P md ops C n (fun listed' a' => Region.seqB md ops g n listed' = true ∧ Lq a') l.length listed a
  | [], k, listed, a, _, hk, _, hB, h => by
    have : k = n := by simpa using hk
    subst this
    exact ⟨by simpa [Region.lexHead] using hB, h⟩
  | o :: l, k, listed, a, hl, hk, inv, hB, h => by
    have h0 : ops[k]? = some o := by simpa using (hl 0 (by simp)).symm
    simp only [List.length_cons, Region.lexHead, Bool.and_eq_true] at hB
    obtain ⟨⟨hr, hf⟩, hB'⟩ := hB
    have hkn : k < n := by simp only [List.length_cons] at hk; omega
    have hr' : k ∈ Region.ready md ops listed := by simpa using hr
    have hst : qOp P ops C k (wpQuiet P ops C Lq l) a := by unfold qOp; simp only [h0]; exact h
    obtain ⟨v, hy, hK⟩ := yieldsIn_of_qOp h0 hst
    exact wpAnyT_first h0 (Region.noSelect_spec hsel) hs hc hn hkn (fun listed' a' hL => seqB_ready hL.1) l.length listed a inv (Region.free_spec h0 hf) hr' hy
      (wpAnyT_lex hsel hs hc hn l (k + 1) _ _ (fun j hj => by have := hl (j + 1) (by simp; omega); simpa [Nat.add_assoc, Nat.add_comm 1 j] using this) (by simp only [List.length_cons] at hk; omega) (inv.set hr' hkn) hB' hK)

theorem wp_region_quiet_tail {id : Nat} {Q : Exit → Act → World → Prop} {a : Act} {w : World} {l : List Oper} (n : Nat) (hm : P.follows .mixedOrders = true) (hB : Region.lexTailB .any l.toArray n = true)
    (hC : C { w with drawn := w.drawn + 1 })
    (h : wpQuiet P l.toArray C (fun a' => ∀ w', C w' → wpList P l.toArray Q (l.drop n) a' w') (l.take n) a) : (Code.region id l.toArray true).wp P Q a w := by
  simp only [Region.lexTailB, Bool.and_eq_true, decide_eq_true_eq] at hB
  obtain ⟨⟨⟨⟨hsel, hn⟩, hs⟩, hc⟩, hlex⟩ := hB
  have hn' : n < l.length := by simpa using hn
  have htl : (l.take n).length = n := by simp; omega
  have hdl : (l.drop n).length = l.toArray.size - n := by simp
  have inv0 : HeadInv .any l.toArray n (Array.replicate l.toArray.size false) :=
    ⟨by simp, fun j oj _ hl => (by rw [getD_replicate_false] at hl; cases hl), fun t _ ht => getD_in (by simpa using ht) (getD_replicate_false _ _)⟩
  have H := wpAnyT_lex (md := .any) (g := l.toArray.size - n) hsel hs hc hn (l.take n) 0 _ a (fun j hj => by
    have hj' : j < n := by rw [htl] at hj; exact hj
    simp [hj']) (by simpa using htl) inv0 (by rw [htl]; exact hlex) h
  refine wp_region_any hm ?_
  have := wpAny_of_headT (Q' := Q) (g := l.toArray.size - n) (fun listed a' w' hw' hL => by
    have := wpAny_of_seq (md := .any) (Q' := Q) (l.drop n) n listed a' w' (fun j => by simp [List.getElem?_drop]) (by rw [hdl]; exact hL.1) (hL.2 w' hw')
    rwa [hdl] at this) _ _ _ _ hC H
  rw [htl, show n + (l.toArray.size - n) = l.toArray.size by omega] at this
  exact this
end

/-- What a callee may have added: a count of draws, blocks. -/
abbrev Ext := GrownBy

/-- w, with other draws, and blocks laid behind it. -/
def ext (w : World) (p : Ext) : World := { w with heap := w.heap ++ p.os, drawn := p.n }

theorem ext_of_below {w w' : World} (h : Below w.heap.size w w') : ∃ p, w' = ext w p := by
  refine ⟨⟨w'.drawn, w'.heap.extract w.heap.size w'.heap.size⟩, ?_⟩
  obtain ⟨heap, tape, drawn, os, output⟩ := w
  obtain ⟨heap', tape', drawn', os', output'⟩ := w'
  obtain ⟨h1, h2, h3, h4, h5⟩ := h
  simp only at h1 h2 h3 h4 h5
  subst h1 h2 h3
  simp only [ext]
  congr 1
  apply Array.ext_getElem?
  intro i
  rw [Array.getElem?_append]
  by_cases hi : i < heap.size
  · rw [if_pos hi]; exact h5 i hi
  · rw [if_neg hi, Array.getElem?_extract]
    by_cases hi' : i < heap'.size
    · rw [if_pos (by omega), show heap.size + (i - heap.size) = i by omega]
    · rw [if_neg (by omega), Array.getElem?_eq_none (by omega)]

theorem below_ext (w : World) (p : Ext) : Below w.heap.size w (ext w p) :=
  ⟨rfl, rfl, rfl, by simp [ext], fun k hk => by simp [ext, Array.getElem?_append, hk]⟩

theorem cell_ext {w : World} {a : Addr} {v : Value} (h : w.cell? a = some v) (p : Ext) : (ext w p).cell? a = some v :=
  ((below_ext w p).cell (World.block_lt_of_cell? w a h)).trans h
theorem frozen_ext {w : World} {a : Addr} {f : Bool} (hb : a.block < w.heap.size) (h : w.frozen? a = f) (p : Ext) : (ext w p).frozen? a = f :=
  ((below_ext w p).frozen hb).trans h

/-- A region with a forced tail, its head's callees laying blocks of their own. -/
theorem wp_region_ext_tail {P : Program} {id : Nat} {Q : Exit → Act → World → Prop} {a : Act} {w : World} {l : List Oper} (n : Nat) (hm : P.follows .mixedOrders = true) (hB : Region.lexTailB .any l.toArray n = true)
    (h : wpQuiet P l.toArray (fun w' => ∃ p, w' = ext w p) (fun a' => ∀ w', (∃ p, w' = ext w p) → wpList P l.toArray Q (l.drop n) a' w') (l.take n) a) : (Code.region id l.toArray true).wp P Q a w :=
  wp_region_quiet_tail (C := fun w' => ∃ p, w' = ext w p) n hm hB (ext_of_below (w' := { w with drawn := w.drawn + 1 }) ⟨rfl, rfl, rfl, Nat.le_refl _, fun _ _ => rfl⟩) h

/-- A callee's contract, met in a world of the class. -/
theorem calls_ext {P : Program} {f : FuncId} {args : Array Value} {w : World} {p : Ext} {v : Value}
    (h : Calls P f args (ext w p) fun e w' => e = .returned v ∧ Below (ext w p).heap.size (ext w p) w') : Calls P f args (ext w p) fun e w'' => e = .returned v ∧ ∃ q, w'' = ext w q :=
  h.mono fun _ _ ⟨he, hb⟩ => ⟨he, ext_of_below ((below_ext w p).trans (hb.mono (below_ext w p).size))⟩

theorem heap_three (w : World) (A B C : Obj) : (((w.alloc A).alloc B).alloc C).heap[w.heap.size]? = some A ∧ (((w.alloc A).alloc B).alloc C).heap[w.heap.size + 1]? = some B ∧ (((w.alloc A).alloc B).alloc C).heap[w.heap.size + 1 + 1]? = some C := by
  refine ⟨?_, ?_, ?_⟩
  · rw [Below.heap_alloc _ _ _ (by simp; omega), Below.heap_alloc _ _ _ (by simp)]; exact heap_alloc_new w A
  · rw [Below.heap_alloc _ _ _ (by simp)]; have := heap_alloc_new (w.alloc A) B; rwa [World.size_alloc] at this
  · have := heap_alloc_new ((w.alloc A).alloc B) C; rwa [World.size_alloc, World.size_alloc] at this

/-- A cell of a block that is known whole, in every world of the class. -/
theorem block_ext {w : World} {b : Nat} {cs : Array Value} {t : TypeId} {o : Nat} {v : Value} (h : w.heap[b]? = some (.cells cs t (0, 0))) (hv : cs[o]? = some v) (p : Ext) : (ext w p).cell? ⟨b, o, none⟩ = some v :=
  cell_ext ((cell_of_row w b o cs t (0, 0) h).trans hv) p
theorem block_ext_free {w : World} {b : Nat} {cs : Array Value} {t : TypeId} {o : Nat} (h : w.heap[b]? = some (.cells cs t (0, 0))) (p : Ext) : (ext w p).frozen? ⟨b, o, none⟩ = false :=
  frozen_ext (Array.getElem?_eq_some_iff.1 h).1 (frozen_of_row w b o cs t h) p
end Go.Proofs.Ybulkcusg
