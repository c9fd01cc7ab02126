/- First child, last child, next sibling, as a tree is built node by node. No program in sight. -/
import Derived.Test.YtoindammaphefaaDoorTextOf
namespace Go.Proofs.YtoindammaphefaaDoor

/-- Of the first m nodes: the first child of k, its last child, the next one of k's siblings. -/
def firstOf (l : List NodeA) (m k : Nat) : Option Nat := (List.range m).find? fun j => parOf l j == k
def lastOf (l : List NodeA) (m k : Nat) : Option Nat := (List.range m).reverse.find? fun j => parOf l j == k
def nextOf (l : List NodeA) (m k : Nat) : Option Nat := (List.range m).find? fun j => decide (k < j) && parOf l j == parOf l k
section
variable {l : List NodeA} {m k : Nat}
theorem firstOf_succ : firstOf l (m + 1) k = (firstOf l m k).or (if parOf l m = k then some m else none) := by
  rw [firstOf, List.range_succ, List.find?_append, List.find?_singleton]; simp [firstOf]
theorem lastOf_succ : lastOf l (m + 1) k = if parOf l m = k then some m else lastOf l m k := by
  rw [lastOf, List.range_succ, List.reverse_append, List.reverse_singleton, List.singleton_append, List.find?_cons]
  by_cases h : parOf l m = k
  · rw [if_pos h, show (parOf l m == (k : Int)) = true by simpa using h]
  · rw [if_neg h, show (parOf l m == (k : Int)) = false by simpa using h]; rfl
theorem nextOf_succ : nextOf l (m + 1) k = (nextOf l m k).or (if k < m ∧ parOf l m = parOf l k then some m else none) := by
  rw [nextOf, List.range_succ, List.find?_append, List.find?_singleton]; simp [nextOf]
theorem firstOf_some {j : Nat} (h : firstOf l m k = some j) : j < m ∧ parOf l j = k ∧ ∀ i, i < j → parOf l i ≠ k := by
  obtain ⟨h1, xs, ys, h2, h3⟩ := List.find?_eq_some_iff_append.1 h
  have hj : j ∈ List.range m := by rw [h2]; simp
  refine ⟨by simpa using hj, by simpa using h1, fun i hi he => ?_⟩
  have hjl : xs.length = j := by
    have e : (List.range m)[xs.length]? = some j := by rw [h2]; simp
    rw [List.getElem?_range (by have := congrArg List.length h2; simp at this; omega)] at e
    exact Option.some.inj e
  have e : xs[i]? = some i := by
    have e2 : (List.range m)[i]? = some i := List.getElem?_range (by have := List.mem_range.1 hj; omega)
    rw [h2, List.getElem?_append_left (by omega)] at e2
    exact e2
  have := h3 i (List.mem_of_getElem? e)
  simp [he] at this
theorem firstOf_none (h : firstOf l m k = none) : ∀ i, i < m → parOf l i ≠ k := by
  intro i hi he
  have := List.find?_eq_none.1 h i (List.mem_range.2 hi)
  simp [he] at this
theorem nextOf_some {j : Nat} (h : nextOf l m k = some j) : k < j ∧ j < m ∧ parOf l j = parOf l k ∧ ∀ i, k < i → i < j → parOf l i ≠ parOf l k := by
  obtain ⟨h1, xs, ys, h2, h3⟩ := List.find?_eq_some_iff_append.1 h
  have hj : j ∈ List.range m := by rw [h2]; simp
  simp only [Bool.and_eq_true, decide_eq_true_eq, beq_iff_eq] at h1
  refine ⟨h1.1, by simpa using hj, h1.2, fun i hki hi he => ?_⟩
  have hjl : xs.length = j := by
    have e : (List.range m)[xs.length]? = some j := by rw [h2]; simp
    rw [List.getElem?_range (by have := congrArg List.length h2; simp at this; omega)] at e
    exact Option.some.inj e
  have e : xs[i]? = some i := by
    have e2 : (List.range m)[i]? = some i := List.getElem?_range (by have := List.mem_range.1 hj; omega)
    rw [h2, List.getElem?_append_left (by omega)] at e2
    exact e2
  have := h3 i (List.mem_of_getElem? e)
  simp [he, hki] at this
theorem nextOf_none (h : nextOf l m k = none) : ∀ i, k < i → i < m → parOf l i ≠ parOf l k := by
  intro i hk hi he
  have := List.find?_eq_none.1 h i (List.mem_range.2 hi)
  simp [he, hk] at this
theorem nextOf_isNone (h : ∀ i, k < i → i < m → parOf l i ≠ parOf l k) : nextOf l m k = none := by
  rw [nextOf, List.find?_eq_none]
  intro i hi
  have := h i
  simp only [List.mem_range] at hi
  simp only [Bool.and_eq_true, decide_eq_true_eq, beq_iff_eq, not_and]
  exact fun h1 => this h1 hi
theorem lastOf_spec (l : List NodeA) (m k : Nat) : (lastOf l m k = none ∧ ∀ i, i < m → parOf l i ≠ k) ∨ ∃ q, lastOf l m k = some q ∧ q < m ∧ parOf l q = k ∧ ∀ i, q < i → i < m → parOf l i ≠ k := by
  induction m with
  | zero => exact .inl ⟨rfl, fun i hi => by omega⟩
  | succ m ih =>
    rw [lastOf_succ]
    by_cases h : parOf l m = k
    · exact .inr ⟨m, by rw [if_pos h], by omega, h, fun i h1 h2 => by omega⟩
    · rw [if_neg h]
      rcases ih with ⟨h1, h2⟩ | ⟨q, h1, h2, h3, h4⟩
      · refine .inl ⟨h1, fun i hi => ?_⟩
        by_cases hi2 : i = m
        · subst hi2; exact h
        · exact h2 i (by omega)
      · refine .inr ⟨q, h1, by omega, h3, fun i h5 h6 => ?_⟩
        by_cases hi2 : i = m
        · subst hi2; exact h
        · exact h4 i h5 (by omega)
end
/-! ### What one more node turns -/
section
variable {l : List NodeA} {m p : Nat}
/-- The parent of the new node had no child. -/
theorem links_none (hp : parOf l m = p) (hl : lastOf l m p = none) :
    (∀ k, firstOf l (m + 1) k = if k = p then some m else firstOf l m k) ∧ (∀ k, lastOf l (m + 1) k = if k = p then some m else lastOf l m k) ∧ (∀ k, k < m → nextOf l (m + 1) k = nextOf l m k) := by
  obtain ⟨_, h0⟩ : lastOf l m p = none ∧ ∀ i, i < m → parOf l i ≠ p := by
    rcases lastOf_spec l m p with h | ⟨q, h1, _⟩
    · exact h
    · rw [hl] at h1; cases h1
  have hf : firstOf l m p = none := by
    rw [firstOf, List.find?_eq_none]
    intro i hi
    simpa using h0 i (List.mem_range.1 hi)
  refine ⟨fun k => ?_, fun k => ?_, fun k hk => ?_⟩
  · rw [firstOf_succ]
    by_cases h : k = p
    · subst h; rw [hf, if_pos hp, if_pos rfl]; rfl
    · rw [if_neg h, if_neg (by rw [hp]; omega)]; simp
  · rw [lastOf_succ]
    by_cases h : k = p
    · subst h; rw [if_pos hp, if_pos rfl]
    · rw [if_neg h, if_neg (by rw [hp]; omega)]
  · rw [nextOf_succ, if_neg (by rw [hp]; intro h; exact h0 k hk h.2.symm)]; simp
/-- The parent of the new node had q for its last child. -/
theorem links_some {q : Nat} (hp : parOf l m = p) (hl : lastOf l m p = some q) :
    q < m ∧ parOf l q = p ∧ (∀ k, firstOf l (m + 1) k = firstOf l m k) ∧ (∀ k, lastOf l (m + 1) k = if k = p then some m else lastOf l m k) ∧ (∀ k, k < m → nextOf l (m + 1) k = if k = q then some m else nextOf l m k) := by
  obtain ⟨q', h1, h2, h3, h4⟩ : ∃ q', lastOf l m p = some q' ∧ q' < m ∧ parOf l q' = p ∧ ∀ i, q' < i → i < m → parOf l i ≠ p := by
    rcases lastOf_spec l m p with ⟨h, _⟩ | h
    · rw [hl] at h; cases h
    · exact h
  rw [hl] at h1
  obtain rfl : q = q' := Option.some.inj h1
  refine ⟨h2, h3, fun k => ?_, fun k => ?_, fun k hk => ?_⟩
  · rw [firstOf_succ]
    by_cases h : k = p
    · subst h
      cases hf : firstOf l m k with
      | none => exact absurd h3 (firstOf_none hf q h2)
      | some j => rfl
    · rw [if_neg (by rw [hp]; omega)]; simp
  · rw [lastOf_succ]
    by_cases h : k = p
    · subst h; rw [if_pos hp, if_pos rfl]
    · rw [if_neg h, if_neg (by rw [hp]; omega)]
  · rw [nextOf_succ]
    by_cases h : k = q
    · subst h
      rw [nextOf_isNone (by rw [h3]; exact h4), if_pos ⟨hk, by rw [hp, h3]⟩, if_pos rfl]; rfl
    · rw [if_neg h]
      by_cases hpk : parOf l k = p
      · cases hn : nextOf l m k with
        | some j => rfl
        | none =>
          have h5 := nextOf_none hn q
          rcases Nat.lt_or_ge k q with h6 | h6
          · exact absurd (h3.trans hpk.symm) (h5 h6 h2)
          · exact absurd hpk (h4 k (by omega) hk)
      · rw [if_neg (by rw [hp]; intro h6; exact hpk h6.2.symm)]; simp
/-- The new node itself has neither child nor next sibling. -/
theorem links_new (ho : ordered l) (hm : m < l.length) : firstOf l (m + 1) m = none ∧ lastOf l (m + 1) m = none ∧ nextOf l (m + 1) m = none := by
  have h0 : ∀ i, i < m + 1 → parOf l i ≠ m := fun i hi he => by have := ho i (by omega); omega
  refine ⟨?_, ?_, nextOf_isNone fun i h1 h2 => by omega⟩
  · rw [firstOf, List.find?_eq_none]
    intro i hi
    simpa using h0 i (List.mem_range.1 hi)
  · rcases lastOf_spec l (m + 1) m with ⟨h, _⟩ | ⟨q, h1, h2, h3, _⟩
    · exact h
    · exact absurd h3 (h0 q h2)
/-- A node without a parent turns nothing. -/
theorem links_root (hp : parOf l m < 0) (hpos : ∀ k, k < m → parOf l k ≠ parOf l m) : (∀ k, firstOf l (m + 1) k = firstOf l m k) ∧ (∀ k, lastOf l (m + 1) k = lastOf l m k) ∧ (∀ k, k < m → nextOf l (m + 1) k = nextOf l m k) := by
  refine ⟨fun k => ?_, fun k => ?_, fun k hk => ?_⟩
  · rw [firstOf_succ, if_neg (by omega)]; simp
  · rw [lastOf_succ, if_neg (by omega)]
  · rw [nextOf_succ, if_neg (fun h => hpos k hk h.2.symm)]; simp
end
end Go.Proofs.YtoindammaphefaaDoor
