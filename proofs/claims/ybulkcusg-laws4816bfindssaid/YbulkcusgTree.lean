/- The plain law of the tree of readers: what 'build' leaves, and that 'beforeIn' finds a reader that lies in the box. No Go here. -/
import Derived.Test.YbulkcusgCmp
namespace Go.Proofs.Ybulkcusg
set_option linter.unusedVariables false

/-- x's box holds y's, and x's read is no later. -/
def Cov (x y : RB) : Prop := x.1.1 ≤ y.1.1 ∧ x.1.2.1 ≤ y.1.2.1 ∧ y.1.2.2.1 ≤ x.1.2.2.1 ∧ y.1.2.2.2 ≤ x.1.2.2.2 ∧ x.2 ≤ y.2

def joinR (x y : RB) : RB := (joinB x.1 y.1, min x.2 y.2)

theorem cov_refl (x : RB) : Cov x x := ⟨Int.le_refl _, Int.le_refl _, Int.le_refl _, Int.le_refl _, Int.le_refl _⟩
theorem cov_left {x y z : RB} (h : Cov x z) : Cov (joinR x y) z := by
  obtain ⟨a, b, c, d, e⟩ := h
  refine ⟨?_, ?_, ?_, ?_, ?_⟩ <;> simp only [joinR, joinB] <;> omega
theorem cov_right {x y z : RB} (h : Cov y z) : Cov (joinR x y) z := by
  obtain ⟨a, b, c, d, e⟩ := h
  refine ⟨?_, ?_, ?_, ?_, ?_⟩ <;> simp only [joinR, joinB] <;> omega

/-- The tree over the places lo to hi: each root's span covers all its readers. -/
def Tree (d s : Nat → RB) : Nat → Nat → Nat → Prop
  | 0, lo, hi => hi ≤ lo
  | m + 1, lo, hi => lo < hi → (∀ j, lo ≤ j → j < hi → Cov (s ((lo + hi) / 2)) (d j)) ∧ Tree d s m lo ((lo + hi) / 2) ∧ Tree d s m ((lo + hi) / 2 + 1) hi

theorem tree_empty (d s : Nat → RB) (m : Nat) {lo hi : Nat} (h : hi ≤ lo) : Tree d s m lo hi := by
  cases m with
  | zero => exact h
  | succ m => intro h'; omega

theorem tree_cov {d s : Nat → RB} {m lo hi : Nat} (h : Tree d s m lo hi) (hlt : lo < hi) : ∀ j, lo ≤ j → j < hi → Cov (s ((lo + hi) / 2)) (d j) := by
  cases m with
  | zero => have : hi ≤ lo := h; omega
  | succ m => exact (h hlt).1

theorem tree_congr {d s d' s' : Nat → RB} : ∀ {m lo hi : Nat}, (∀ j, lo ≤ j → j < hi → d' j = d j ∧ s' j = s j) → Tree d s m lo hi → Tree d' s' m lo hi
  | 0, _, _, _, h => h
  | m + 1, lo, hi, hc, h => fun hlt => by
    obtain ⟨h1, h2, h3⟩ := h hlt
    refine ⟨fun j hj1 hj2 => ?_, tree_congr (fun j a b => hc j a (by omega)) h2, tree_congr (fun j a b => hc j (by omega) b) h3⟩
    rw [(hc j hj1 hj2).1, (hc _ (by omega) (by omega)).2]
    exact h1 j hj1 hj2

/-- d' is d with the places lo to hi turned among themselves: nothing is lost. -/
def Moves (lo hi : Nat) (d d' : Nat → RB) : Prop :=
  (∀ j, j < lo ∨ hi ≤ j → d' j = d j) ∧ ∀ j, lo ≤ j → j < hi → ∃ i, lo ≤ i ∧ i < hi ∧ d' i = d j

theorem moves_refl (lo hi : Nat) (d : Nat → RB) : Moves lo hi d d := ⟨fun _ _ => rfl, fun j a b => ⟨j, a, b, rfl⟩⟩

theorem moves_trans {lo hi : Nat} {d d' d'' : Nat → RB} (h : Moves lo hi d d') (k : Moves lo hi d' d'') : Moves lo hi d d'' := by
  refine ⟨fun j hj => (k.1 j hj).trans (h.1 j hj), fun j a b => ?_⟩
  obtain ⟨i, i1, i2, e⟩ := h.2 j a b
  obtain ⟨i', i1', i2', e'⟩ := k.2 i i1 i2
  exact ⟨i', i1', i2', e'.trans e⟩

theorem moves_mono {lo hi a b : Nat} {d d' : Nat → RB} (h : Moves a b d d') (h1 : lo ≤ a) (h2 : b ≤ hi) : Moves lo hi d d' := by
  refine ⟨fun j hj => h.1 j (by omega), fun j hj1 hj2 => ?_⟩
  by_cases hin : a ≤ j ∧ j < b
  · obtain ⟨i, i1, i2, e⟩ := h.2 j hin.1 hin.2
    exact ⟨i, by omega, by omega, e⟩
  · exact ⟨j, hj1, hj2, h.1 j (by omega)⟩

/-- What holds behind k of build's two rounds. -/
def BInv (m lo hi root k : Nat) (d s : Nat → RB) : Prop :=
  Cov (s root) (d root) ∧ (1 ≤ k → Tree d s m lo root ∧ ∀ j, lo ≤ j → j < root → Cov (s root) (d j)) ∧ (2 ≤ k → Tree d s m (root + 1) hi ∧ ∀ j, root < j → j < hi → Cov (s root) (d j))

theorem binv_end {m lo hi : Nat} {d s : Nat → RB} (h : BInv m lo hi ((lo + hi) / 2) 2 d s) : Tree d s (m + 1) lo hi := fun hlt => by
  obtain ⟨h0, h1, h2⟩ := h
  obtain ⟨t1, c1⟩ := h1 (by omega)
  obtain ⟨t2, c2⟩ := h2 (by omega)
  refine ⟨fun j a b => ?_, t1, t2⟩
  rcases (show j < (lo + hi) / 2 ∨ j = (lo + hi) / 2 ∨ (lo + hi) / 2 < j by omega) with h | h | h
  · exact c1 j a h
  · rw [h]; exact h0
  · exact c2 j h b

def upd (s : Nat → RB) (r : Nat) (x : RB) : Nat → RB := fun j => if j = r then x else s j
theorem upd_same (s : Nat → RB) (r : Nat) (x : RB) : upd s r x r = x := by simp [upd]
theorem upd_other (s : Nat → RB) {r j : Nat} (x : RB) (h : j ≠ r) : upd s r x j = s j := by simp [upd, h]

/-- The left half is built, and joined into the root's span. -/
theorem binv_left {m lo hi root : Nat} {d s d1 s1 : Nat → RB} (h : BInv m lo hi root 0 d s) (hlt : lo < root) (hm : Moves lo root d d1) (hs : ∀ j, j < lo ∨ root ≤ j → s1 j = s j) (ht : Tree d1 s1 m lo root) :
    BInv m lo hi root 1 d1 (upd s1 root (joinR (s1 root) (s1 ((lo + root) / 2)))) := by
  refine ⟨?_, fun _ => ⟨tree_congr (fun j a b => ⟨rfl, upd_other _ _ (by omega)⟩) ht, fun j a b => ?_⟩, fun h2 => by omega⟩
  · rw [upd_same, hs root (by omega), hm.1 root (by omega)]
    exact cov_left h.1
  · rw [upd_same]
    exact cov_right (tree_cov ht hlt j a b)

theorem binv_left_none {m lo hi root : Nat} {d s : Nat → RB} (h : BInv m lo hi root 0 d s) (hlt : ¬ lo < root) : BInv m lo hi root 1 d s :=
  ⟨h.1, fun _ => ⟨tree_empty _ _ _ (by omega), fun j a b => by omega⟩, fun h2 => by omega⟩

/-- The right half likewise. -/
theorem binv_right {m lo hi root : Nat} {d s d1 s1 : Nat → RB} (h : BInv m lo hi root 1 d s) (hlt : root + 1 < hi) (hm : Moves (root + 1) hi d d1) (hs : ∀ j, j < root + 1 ∨ hi ≤ j → s1 j = s j) (ht : Tree d1 s1 m (root + 1) hi) :
    BInv m lo hi root 2 d1 (upd s1 root (joinR (s1 root) (s1 ((root + 1 + hi) / 2)))) := by
  obtain ⟨h0, h1, _⟩ := h
  obtain ⟨t1, c1⟩ := h1 (by omega)
  refine ⟨?_, fun _ => ⟨tree_congr (fun j a b => ⟨hm.1 j (by omega), ?_⟩) t1, fun j a b => ?_⟩, fun _ => ⟨tree_congr (fun j a b => ⟨rfl, upd_other _ _ (by omega)⟩) ht, fun j a b => ?_⟩⟩
  · rw [upd_same, hs root (by omega), hm.1 root (by omega)]
    exact cov_left h0
  · rw [upd_other _ _ (by omega), hs j (by omega)]
  · rw [upd_same, hs root (by omega), hm.1 j (by omega)]
    exact cov_left (c1 j a b)
  · rw [upd_same]
    exact cov_right (tree_cov ht hlt j (by omega) b)

theorem binv_right_none {m lo hi root : Nat} {d s : Nat → RB} (h : BInv m lo hi root 1 d s) (hlt : ¬ root + 1 < hi) : BInv m lo hi root 2 d s :=
  ⟨h.1, fun _ => h.2.1 (by omega), fun _ => ⟨tree_empty _ _ _ (by omega), fun j a b => by omega⟩⟩

/-- 'beforeIn', with fuel. -/
def bi (d s : Nat → RB) (Q : LB) (at_ : Int) : Nat → Nat → Nat → Bool
  | 0, _, _ => false
  | m + 1, lo, hi =>
    if hi ≤ lo then false
    else if at_ ≤ (s ((lo + hi) / 2)).2 then false
    else if meetsB Q (s ((lo + hi) / 2)).1 = false then false
    else if holdsB Q (s ((lo + hi) / 2)).1 = true then true
    else if (d ((lo + hi) / 2)).2 < at_ ∧ holdsB Q (d ((lo + hi) / 2)).1 = true then true
    else if bi d s Q at_ m lo ((lo + hi) / 2) = true then true
    else bi d s Q at_ m ((lo + hi) / 2 + 1) hi

theorem bi_finds (d s : Nat → RB) (Q : LB) (at_ : Int) : ∀ (m lo hi j : Nat), hi - lo ≤ m → Tree d s m lo hi → lo ≤ j → j < hi → holdsB Q (d j).1 = true → (d j).2 < at_ →
    (d j).1.1 ≤ (d j).1.2.2.1 → (d j).1.2.1 ≤ (d j).1.2.2.2 → bi d s Q at_ m lo hi = true
  | 0, lo, hi, j, hm, _, h1, h2, _, _, _, _ => by omega
  | m + 1, lo, hi, j, hm, ht, h1, h2, hh, hat, p1, p2 => by
    have hlt : lo < hi := by omega
    obtain ⟨hc, t1, t2⟩ := ht hlt
    obtain ⟨c1, c2, c3, c4, c5⟩ := hc j h1 h2
    unfold bi
    rw [if_neg (by omega), if_neg (by omega)]
    have hq := hh
    unfold holdsB at hq
    simp at hq
    obtain ⟨⟨⟨q1, q2⟩, q3⟩, q4⟩ := hq
    rw [if_neg (by unfold meetsB; simp; omega)]
    split
    · rfl
    · split
      · rfl
      · rename_i hr
        rcases (show j < (lo + hi) / 2 ∨ j = (lo + hi) / 2 ∨ (lo + hi) / 2 < j by omega) with h | h | h
        · rw [if_pos (bi_finds d s Q at_ m lo _ j (by omega) t1 h1 h hh hat p1 p2)]
        · rw [← h] at hr
          exact absurd ⟨hat, hh⟩ hr
        · split
          · rfl
          · exact bi_finds d s Q at_ m _ hi j (by omega) t2 (by omega) h2 hh hat p1 p2
end Go.Proofs.Ybulkcusg
