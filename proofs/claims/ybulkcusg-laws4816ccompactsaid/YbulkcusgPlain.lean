/- The plain law of 'distinctItems': how many blocks of equal neighbours; no Go here. -/
namespace Go.Proofs.Ybulkcusg

/-- How many of the first k places of zs begin a block of equal neighbours. -/
def cnt (zs : List Int) : Nat → Nat
  | 0 => 0
  | k + 1 => cnt zs k + if k = 0 ∨ zs.getD k 0 ≠ zs.getD (k - 1) 0 then 1 else 0

theorem cnt_le (zs : List Int) (k : Nat) : cnt zs k ≤ k := by
  induction k with
  | zero => simp [cnt]
  | succ k ih => simp only [cnt]; split <;> omega

theorem cnt_pos (zs : List Int) (k : Nat) (h : 0 < k) : 1 ≤ cnt zs k := by
  induction k with
  | zero => omega
  | succ k ih =>
    simp only [cnt]
    by_cases h0 : k = 0
    · simp [h0]
    · have := ih (by omega); omega

theorem cnt_congr (xs ys : List Int) (k : Nat) (h : ∀ j, j < k → xs.getD j 0 = ys.getD j 0) : cnt xs k = cnt ys k := by
  induction k with
  | zero => rfl
  | succ k ih =>
    simp only [cnt]
    rw [ih (fun j hj => h j (by omega)), h k (by omega)]
    by_cases h0 : k = 0
    · simp [h0]
    · rw [h (k - 1) (by omega)]

theorem if_iff {p q : Prop} [Decidable p] [Decidable q] (h : p ↔ q) : (if p then (1 : Nat) else 0) = if q then 1 else 0 := by
  by_cases hq : q
  · rw [if_pos hq, if_pos (h.2 hq)]
  · rw [if_neg hq, if_neg (fun x => hq (h.1 x))]

/-- Counting over a concatenation. -/
theorem cnt_append (xs ys : List Int) (la : Nat) (hla : xs.length = la) (k : Nat) :
    cnt (xs ++ ys) (la + k) + (if 0 < la ∧ 0 < k ∧ xs.getD (la - 1) 0 = ys.getD 0 0 then 1 else 0) = cnt xs la + cnt ys k := by
  have hA : ∀ j, j < la → (xs ++ ys).getD j 0 = xs.getD j 0 := by
    intro j hj; simp [List.getD, List.getElem?_append, hla, hj]
  have hB : ∀ j, (xs ++ ys).getD (la + j) 0 = ys.getD j 0 := by
    intro j; simp [List.getD, List.getElem?_append, hla, show ¬ la + j < la by omega]
  induction k with
  | zero => simp [cnt]; exact cnt_congr _ _ _ hA
  | succ k ih =>
    rw [show la + (k + 1) = (la + k) + 1 by omega]
    simp only [cnt]
    rw [hB k]
    by_cases hk : k = 0
    · subst hk
      by_cases h0 : la = 0
      · subst h0
        simp only [Nat.zero_add, cnt] at ih ⊢
        simp
      · have e1 : (xs ++ ys).getD (la + 0 - 1) 0 = xs.getD (la - 1) 0 := hA _ (by omega)
        rw [e1]
        simp only [Nat.add_zero, cnt] at ih ⊢
        rw [cnt_congr (xs ++ ys) xs la hA]
        by_cases he : xs.getD (la - 1) 0 = ys.getD 0 0
        · rw [if_neg (by omega), if_pos ⟨by omega, by omega, he⟩, if_pos (.inl trivial)]
        · rw [if_pos (.inr (fun e => he e.symm)), if_neg (fun h => he h.2.2), if_pos (.inl trivial)]
    · have e1 : (xs ++ ys).getD (la + k - 1) 0 = ys.getD (k - 1) 0 := by rw [show la + k - 1 = la + (k - 1) by omega]; exact hB _
      rw [e1]
      have c1 : (la + k = 0 ∨ ys.getD k 0 ≠ ys.getD (k - 1) 0) ↔ (k = 0 ∨ ys.getD k 0 ≠ ys.getD (k - 1) 0) := by
        constructor <;> rintro (h | h) <;> first | omega | exact .inr h
      rw [if_iff c1]
      have c2 : (0 < la ∧ 0 < k + 1 ∧ xs.getD (la - 1) 0 = ys.getD 0 0) ↔ (0 < la ∧ 0 < k ∧ xs.getD (la - 1) 0 = ys.getD 0 0) := by
        constructor
        · rintro ⟨h1, _, h3⟩; exact ⟨h1, by omega, h3⟩
        · rintro ⟨h1, _, h3⟩; exact ⟨h1, by omega, h3⟩
      rw [if_iff c2]
      omega
end Go.Proofs.Ybulkcusg
