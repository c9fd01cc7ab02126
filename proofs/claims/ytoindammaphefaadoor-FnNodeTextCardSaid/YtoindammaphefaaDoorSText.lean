/- The text of a node of a tree, as plain law: how it is put together of its children's, and how long it is at most. No program in sight. -/
import Derived.Test.YtoindammaphefaaDoorNTree
namespace Go.Proofs.YtoindammaphefaaDoor

def parOf (l : List NodeA) (k : Nat) : Int := ((l[k]?).map (·.parent)).getD (-1)
def kindOf (l : List NodeA) (k : Nat) : Int := ((l[k]?).map (·.kind)).getD 0
def datOf (l : List NodeA) (k : Nat) : List UInt8 := ((l[k]?).map (·.data.data.toList)).getD []
/-- The texts g of those of the first n that p lets through, one behind the other. -/
def upTo (g : Nat → List UInt8) (p : Nat → Bool) (n : Nat) : List UInt8 := (List.range n).flatMap fun k => if p k then g k else []
theorem upTo_succ (g : Nat → List UInt8) (p : Nat → Bool) (n : Nat) : upTo g p (n + 1) = upTo g p n ++ (if p n then g n else []) := by simp [upTo, List.range_succ]
theorem upTo_congr {g g' : Nat → List UInt8} {p : Nat → Bool} {n : Nat} (h : ∀ k, k < n → p k = true → g k = g' k) : upTo g p n = upTo g' p n := by
  induction n with
  | zero => rfl
  | succ n ih =>
    rw [upTo_succ, upTo_succ, ih (fun k hk => h k (by omega))]
    congr 1
    by_cases hp : p n = true
    · rw [if_pos hp, if_pos hp, h n (by omega) hp]
    · rw [if_neg hp, if_neg hp]
theorem upTo_le {g : Nat → List UInt8} {p : Nat → Bool} {n m : Nat} (h : n ≤ m) : (upTo g p n).length ≤ (upTo g p m).length := by
  induction m with
  | zero => have : n = 0 := by omega
            subst this; exact Nat.le_refl _
  | succ m ih =>
    by_cases hn : n = m + 1
    · subst hn; exact Nat.le_refl _
    · rw [upTo_succ, List.length_append]
      have := ih (by omega)
      omega
def textF : Nat → List NodeA → Nat → List UInt8
  | 0, _, _ => []
  | f + 1, l, i => if kindOf l i = 1 then datOf l i else upTo (textF f l) (fun k => parOf l k == i) l.length
/-- A parent stands ahead of its children. -/
def ordered (l : List NodeA) : Prop := ∀ k, k < l.length → parOf l k < k
theorem textF_stable {l : List NodeA} (ho : ordered l) : ∀ f f' i, i < l.length → l.length - i ≤ f → l.length - i ≤ f' → textF f l i = textF f' l i := by
  intro f
  induction f with
  | zero => intro f' i hi h; omega
  | succ f ih =>
    intro f' i hi h h'
    cases f' with
    | zero => omega
    | succ f' =>
      simp only [textF]
      split
      · rfl
      · refine upTo_congr fun k hk hp => ?_
        have := ho k hk
        have hp' : parOf l k = i := by simpa using hp
        exact ih f' k hk (by omega) (by omega)
def text (l : List NodeA) (i : Nat) : List UInt8 := textF l.length l i
theorem text_eq {l : List NodeA} (ho : ordered l) {i : Nat} (hi : i < l.length) : text l i = if kindOf l i = 1 then datOf l i else upTo (text l) (fun k => parOf l k == i) l.length := by
  obtain ⟨f, hf⟩ : ∃ f, l.length = f + 1 := ⟨l.length - 1, by omega⟩
  have : text l i = textF (f + 1) l i := by rw [text, hf]
  rw [this, textF]
  split
  · rfl
  · refine upTo_congr fun k hk hp => ?_
    have h1 := ho k hk
    have hp' : parOf l k = i := by simpa using hp
    exact textF_stable ho f l.length k hk (by omega) (by omega)
/-- The text of a node's own children that are texts. -/
def ownText (l : List NodeA) (i : Nat) : List UInt8 := upTo (datOf l) (fun k => parOf l k == i && kindOf l k == 1) l.length

/-! ### How long -/
def sumTo (g : Nat → Nat) (n : Nat) : Nat := ((List.range n).map g).sum
theorem sumTo_succ (g : Nat → Nat) (n : Nat) : sumTo g (n + 1) = sumTo g n + g n := by simp [sumTo, List.range_succ]
theorem upTo_length (g : Nat → List UInt8) (p : Nat → Bool) (n : Nat) : (upTo g p n).length = sumTo (fun k => if p k then (g k).length else 0) n := by
  induction n with
  | zero => rfl
  | succ n ih => rw [upTo_succ, List.length_append, ih, sumTo_succ]; split <;> simp
theorem sumTo_add (g h : Nat → Nat) (n : Nat) : sumTo (fun k => g k + h k) n = sumTo g n + sumTo h n := by
  induction n with
  | zero => rfl
  | succ n ih => rw [sumTo_succ, sumTo_succ, sumTo_succ, ih]; omega
theorem sumTo_congr {g h : Nat → Nat} {n : Nat} (e : ∀ k, k < n → g k = h k) : sumTo g n = sumTo h n := by
  induction n with
  | zero => rfl
  | succ n ih => rw [sumTo_succ, sumTo_succ, ih fun k hk => e k (by omega), e n (by omega)]
theorem sumTo_le {g : Nat → Nat} {n c : Nat} (e : ∀ k, k < n → g k ≤ c) : sumTo g n ≤ c * n := by
  induction n with
  | zero => exact Nat.zero_le _
  | succ n ih =>
    have h1 := ih fun k hk => e k (by omega)
    have h2 := e n (by omega)
    rw [sumTo_succ, Nat.mul_succ]; omega
theorem sumTo_one {g : Nat → Nat} {n i : Nat} (hi : i < n) (e : ∀ k, k < n → k ≠ i → g k = 0) : sumTo g n = g i := by
  induction n with
  | zero => omega
  | succ n ih =>
    rw [sumTo_succ]
    by_cases h : i = n
    · subst h
      rw [show sumTo g i = sumTo (fun _ => 0) i from sumTo_congr fun k hk => e k (by omega) (by omega)]
      have : sumTo (fun _ => 0) i = 0 := by have := sumTo_le (g := fun _ => 0) (n := i) (c := 0) (fun _ _ => Nat.le_refl _); omega
      omega
    · rw [ih (by omega) fun k hk hne => e k (by omega) hne, e n (by omega) (by omega)]; rfl
theorem sumTo_ge {g : Nat → Nat} {n i : Nat} (hi : i < n) : g i ≤ sumTo g n := by
  induction n with
  | zero => omega
  | succ n ih =>
    rw [sumTo_succ]
    by_cases h : i = n
    · subst h; omega
    · have := ih (by omega); omega
/-- The texts of the nodes from m on whose parents stand ahead of m. -/
def forest (l : List NodeA) (m : Nat) : Nat := sumTo (fun k => if m ≤ k ∧ parOf l k < m then (text l k).length else 0) l.length
theorem forest_step {l : List NodeA} (ho : ordered l) (hd : ∀ k, k < l.length → kindOf l k = 1 → (datOf l k).length ≤ 40) {m : Nat} (hm : m < l.length) : forest l m ≤ forest l (m + 1) + 40 := by
  have e1 : forest l (m + 1) = sumTo (fun k => if m + 1 ≤ k ∧ parOf l k < m then (text l k).length else 0) l.length + sumTo (fun k => if parOf l k == m then (text l k).length else 0) l.length := by
    rw [← sumTo_add]
    refine sumTo_congr fun k hk => ?_
    have := ho k hk
    by_cases h1 : parOf l k = m
    · have h2 : m + 1 ≤ k := by omega
      rw [if_pos ⟨h2, by omega⟩, if_neg (by omega), if_pos (by simp [h1])]; omega
    · simp only [beq_iff_eq, h1, if_false, Nat.add_zero]
      congr 1
      simp only [eq_iff_iff]
      omega
  have e2 : forest l m = sumTo (fun k => if m + 1 ≤ k ∧ parOf l k < m then (text l k).length else 0) l.length + sumTo (fun k => if k = m then (text l k).length else 0) l.length := by
    rw [← sumTo_add]
    refine sumTo_congr fun k hk => ?_
    have := ho k hk
    by_cases h1 : k = m
    · subst h1
      rw [if_pos ⟨Nat.le_refl _, this⟩, if_neg (by omega), if_pos rfl]; omega
    · simp only [h1, if_false, Nat.add_zero]
      congr 1
      simp only [eq_iff_iff]
      omega
  have e3 : sumTo (fun k => if k = m then (text l k).length else 0) l.length = (text l m).length := by
    rw [sumTo_one hm fun k _ hne => by simp [hne]]; simp
  have e4 : (text l m).length ≤ sumTo (fun k => if parOf l k == m then (text l k).length else 0) l.length + 40 := by
    rw [text_eq ho hm]
    split
    · rename_i h1; have := hd m hm h1; omega
    · rw [upTo_length]; omega
  omega
theorem text_small {l : List NodeA} (ho : ordered l) (hd : ∀ k, k < l.length → kindOf l k = 1 → (datOf l k).length ≤ 40) {i : Nat} (hi : i < l.length) : (text l i).length ≤ 40 * l.length := by
  have h1 : ∀ n m, m + n = l.length → forest l m ≤ 40 * n := by
    intro n
    induction n with
    | zero =>
      intro m hm
      have : forest l m = sumTo (fun _ => 0) l.length := sumTo_congr fun k hk => by rw [if_neg (by omega)]
      rw [this]
      have h0 := sumTo_le (g := fun _ => 0) (n := l.length) (c := 0) fun _ _ => Nat.le_refl _
      omega
    | succ n ih =>
      intro m hm
      have h2 := ih (m + 1) (by omega)
      have h3 := forest_step ho hd (m := m) (by omega)
      omega
  have h2 := h1 (l.length - i) i (by omega)
  have h3 : (text l i).length ≤ forest l i := by
    have h4 := sumTo_ge (g := fun k => if i ≤ k ∧ parOf l k < i then (text l k).length else 0) hi
    have := ho i hi
    simp only [Nat.le_refl, this, and_self, if_true] at h4
    exact h4
  have : 40 * (l.length - i) ≤ 40 * l.length := Nat.mul_le_mul_left _ (Nat.sub_le _ _)
  omega
theorem ownText_small {l : List NodeA} (hd : ∀ k, k < l.length → kindOf l k = 1 → (datOf l k).length ≤ 40) (i : Nat) : (ownText l i).length ≤ 40 * l.length := by
  rw [ownText, upTo_length]
  exact sumTo_le fun k hk => by
    split
    · rename_i h1; simp only [Bool.and_eq_true, beq_iff_eq] at h1; exact hd k hk h1.2
    · exact Nat.zero_le _

/-! ### What Tree lets through -/
theorem getOf {l : List NodeA} {k : Nat} {n : NodeA} (h : l[k]? = some n) : parOf l k = n.parent ∧ kindOf l k = n.kind ∧ datOf l k = n.data.data.toList := by simp [parOf, kindOf, datOf, h]
end Go.Proofs.YtoindammaphefaaDoor
