/- A tree of linked nodes in memory, and what one more node turns. No program in sight. -/
import Derived.Test.YtoindammaphefaaDoorSLink
namespace Go.Proofs.YtoindammaphefaaDoor

def ptrOf (b : Nat → Nat) : Option Nat → Value
  | none => .pointer none
  | some j => .pointer (some ⟨b j, 0, none⟩)
def linkCells (l : List NodeA) (b : Nat → Nat) (m k : Nat) (n : NodeA) (pp pv : Value) : Array Value :=
  #[pp, ptrOf b (firstOf l m k), ptrOf b (lastOf l m k), pv, ptrOf b (nextOf l m k), .int .u32 n.kind, .string n.data, n.av]
/-- The first m nodes of a tree lie in the blocks b, linked. -/
structure TreeMem (T : TypeId) (base : Nat) (l : List NodeA) (m : Nat) (b : Nat → Nat) (w : World) : Prop where
  lies : ∀ k n, k < m → l[k]? = some n → ∃ pp pv, w.heap[b k]? = some (.cells (linkCells l b m k n pp pv) T (0, 0))
  base : ∀ k, k < m → base ≤ b k
  inj : ∀ j k, j < m → k < m → b j = b k → j = k
section
variable {T : TypeId} {base m : Nat} {l : List NodeA} {b : Nat → Nat} {w w' : World}
theorem TreeMem.keep (h : TreeMem T base l m b w) (hk : ∀ k, k < m → w'.heap[b k]? = w.heap[b k]?) : TreeMem T base l m b w' :=
  ⟨fun k n hkm hn => by
    obtain ⟨pp, pv, h1⟩ := h.lies k n hkm hn
    exact ⟨pp, pv, (hk k hkm).trans h1⟩, h.base, h.inj⟩
theorem TreeMem.lt (h : TreeMem T base l m b w) (hl : m ≤ l.length) {k : Nat} (hk : k < m) : b k < w.heap.size := by
  obtain ⟨pp, pv, h1⟩ := h.lies k _ hk (List.getElem?_eq_getElem (by omega))
  exact (Array.getElem?_eq_some_iff.1 h1).1
/-- One block more. -/
def upd (b : Nat → Nat) (m g : Nat) : Nat → Nat := fun k => if k = m then g else b k
theorem upd_old {g k : Nat} (h : k < m) : upd b m g k = b k := by simp [upd]; omega
theorem upd_new {g : Nat} : upd b m g m = g := by simp [upd]
theorem ptr_old {g : Nat} {o : Option Nat} (h : ∀ j, o = some j → j < m) : ptrOf (upd b m g) o = ptrOf b o := by
  cases o with
  | none => rfl
  | some j => simp only [ptrOf]; rw [upd_old (h j rfl)]
theorem ptr_new {g : Nat} : ptrOf (upd b m g) (some m) = .pointer (some ⟨g, 0, none⟩) := by simp only [ptrOf]; rw [upd_new]
theorem firstOf_lt {k : Nat} : ∀ j, firstOf l m k = some j → j < m := fun _ h => (firstOf_some h).1
theorem nextOf_lt {k : Nat} : ∀ j, nextOf l m k = some j → j < m := fun _ h => (nextOf_some h).2.1
theorem lastOf_lt {k : Nat} : ∀ j, lastOf l m k = some j → j < m := fun j h => by
  rcases lastOf_spec l m k with ⟨h1, _⟩ | ⟨q, h1, h2, _⟩
  · rw [h] at h1; cases h1
  · rw [h] at h1; injection h1 with h1; omega
theorem inj_upd {g : Nat} (hi : ∀ j k, j < m → k < m → b j = b k → j = k) (hg : ∀ k, k < m → b k ≠ g) : ∀ j k, j < m + 1 → k < m + 1 → upd b m g j = upd b m g k → j = k := by
  intro j k hj hk e
  by_cases h1 : j = m <;> by_cases h2 : k = m
  · omega
  · subst h1; rw [upd_new, upd_old (by omega)] at e; exact absurd e.symm (hg k (by omega))
  · subst h2; rw [upd_new, upd_old (by omega)] at e; exact absurd e (hg j (by omega))
  · rw [upd_old (by omega), upd_old (by omega)] at e; exact hi j k (by omega) (by omega) e
/-- What the new block holds. -/
def newCells (n : NodeA) (pp pv : Value) : Array Value := #[pp, .pointer none, .pointer none, pv, .pointer none, .int .u32 n.kind, .string n.data, n.av]
theorem new_cells {g : Nat} {n : NodeA} {pp pv : Value} (ho : ordered l) (hm : m < l.length) : newCells n pp pv = linkCells l (upd b m g) (m + 1) m n pp pv := by
  obtain ⟨h1, h2, h3⟩ := links_new ho hm
  simp only [newCells, linkCells, h1, h2, h3, ptrOf]
theorem grow_root {g : Nat} {n : NodeA} {pp pv : Value} (h : TreeMem T base l m b w) (ho : ordered l) (hn : l[m]? = some n) (hg : base ≤ g) (hne : ∀ k, k < m → b k ≠ g)
    (hp : parOf l m < 0) (hpos : ∀ k, k < m → parOf l k ≠ parOf l m) (hnew : w'.heap[g]? = some (.cells (newCells n pp pv) T (0, 0))) (hold : ∀ k, k < m → w'.heap[b k]? = w.heap[b k]?) : TreeMem T base l (m + 1) (upd b m g) w' := by
  have hm := (List.getElem?_eq_some_iff.1 hn).1
  obtain ⟨l1, l2, l3⟩ := links_root hp hpos
  refine ⟨fun k n' hk hn' => ?_, fun k hk => ?_, inj_upd h.inj hne⟩
  · by_cases hkm : k = m
    · subst hkm
      rw [hn] at hn'
      obtain rfl := Option.some.inj hn'
      exact ⟨pp, pv, by rw [upd_new, hnew, new_cells ho hm]⟩
    · obtain ⟨p1, p2, h1⟩ := h.lies k n' (by omega) hn'
      refine ⟨p1, p2, ?_⟩
      rw [upd_old (by omega), hold k (by omega), h1]
      simp only [linkCells, l1 k, l2 k, l3 k (by omega), ptr_old firstOf_lt, ptr_old lastOf_lt, ptr_old nextOf_lt]
  · by_cases hkm : k = m
    · subst hkm; rw [upd_new]; exact hg
    · rw [upd_old (by omega)]; exact h.base k (by omega)
theorem grow_none {g p : Nat} {n : NodeA} {pp pv : Value} (h : TreeMem T base l m b w) (ho : ordered l) (hn : l[m]? = some n) (hg : base ≤ g) (hne : ∀ k, k < m → b k ≠ g)
    (hp : parOf l m = p) (hl : lastOf l m p = none) (hnew : w'.heap[g]? = some (.cells (newCells n pp pv) T (0, 0)))
    (hpar : ∀ cs, w.heap[b p]? = some (.cells cs T (0, 0)) → w'.heap[b p]? = some (.cells ((cs.setIfInBounds 1 (.pointer (some ⟨g, 0, none⟩))).setIfInBounds 2 (.pointer (some ⟨g, 0, none⟩))) T (0, 0)))
    (hold : ∀ k, k < m → k ≠ p → w'.heap[b k]? = w.heap[b k]?) : TreeMem T base l (m + 1) (upd b m g) w' := by
  have hm := (List.getElem?_eq_some_iff.1 hn).1
  obtain ⟨l1, l2, l3⟩ := links_none hp hl
  refine ⟨fun k n' hk hn' => ?_, fun k hk => ?_, inj_upd h.inj hne⟩
  · by_cases hkm : k = m
    · subst hkm
      rw [hn] at hn'
      obtain rfl := Option.some.inj hn'
      exact ⟨pp, pv, by rw [upd_new, hnew, new_cells ho hm]⟩
    · obtain ⟨p1, p2, h1⟩ := h.lies k n' (by omega) hn'
      refine ⟨p1, p2, ?_⟩
      rw [upd_old (by omega)]
      by_cases hkp : k = p
      · subst hkp
        rw [hpar _ h1]
        simp only [linkCells, l1 k, l2 k, l3 k (by omega), if_true, ptr_new, ptr_old nextOf_lt]
        rfl
      · rw [hold k (by omega) hkp, h1]
        simp only [linkCells, l1 k, l2 k, l3 k (by omega), hkp, if_false, ptr_old firstOf_lt, ptr_old lastOf_lt, ptr_old nextOf_lt]
  · by_cases hkm : k = m
    · subst hkm; rw [upd_new]; exact hg
    · rw [upd_old (by omega)]; exact h.base k (by omega)
theorem grow_some {g p q : Nat} {n : NodeA} {pp pv : Value} (h : TreeMem T base l m b w) (ho : ordered l) (hn : l[m]? = some n) (hg : base ≤ g) (hne : ∀ k, k < m → b k ≠ g)
    (hp : parOf l m = p) (hl : lastOf l m p = some q) (hnew : w'.heap[g]? = some (.cells (newCells n pp pv) T (0, 0)))
    (hpar : ∀ cs, w.heap[b p]? = some (.cells cs T (0, 0)) → w'.heap[b p]? = some (.cells (cs.setIfInBounds 2 (.pointer (some ⟨g, 0, none⟩))) T (0, 0)))
    (hsib : ∀ cs, w.heap[b q]? = some (.cells cs T (0, 0)) → w'.heap[b q]? = some (.cells (cs.setIfInBounds 4 (.pointer (some ⟨g, 0, none⟩))) T (0, 0)))
    (hold : ∀ k, k < m → k ≠ p → k ≠ q → w'.heap[b k]? = w.heap[b k]?) : TreeMem T base l (m + 1) (upd b m g) w' := by
  have hm := (List.getElem?_eq_some_iff.1 hn).1
  obtain ⟨hqm, hqp, l1, l2, l3⟩ := links_some hp hl
  have hpq : p < q := by have := ho q (by omega); omega
  refine ⟨fun k n' hk hn' => ?_, fun k hk => ?_, inj_upd h.inj hne⟩
  · by_cases hkm : k = m
    · subst hkm
      rw [hn] at hn'
      obtain rfl := Option.some.inj hn'
      exact ⟨pp, pv, by rw [upd_new, hnew, new_cells ho hm]⟩
    · obtain ⟨p1, p2, h1⟩ := h.lies k n' (by omega) hn'
      refine ⟨p1, p2, ?_⟩
      rw [upd_old (by omega)]
      by_cases hkp : k = p
      · subst hkp
        have hkq : k ≠ q := by omega
        rw [hpar _ h1]
        simp only [linkCells, l1 k, l2 k, l3 k (by omega), hkq, if_true, if_false, ptr_new, ptr_old nextOf_lt, ptr_old firstOf_lt]
        rfl
      · by_cases hkq : k = q
        · subst hkq
          rw [hsib _ h1]
          simp only [linkCells, l1 k, l2 k, l3 k (by omega), hkp, if_true, if_false, ptr_new, ptr_old lastOf_lt, ptr_old firstOf_lt]
          rfl
        · rw [hold k (by omega) hkp hkq, h1]
          simp only [linkCells, l1 k, l2 k, l3 k (by omega), hkp, hkq, if_false, ptr_old firstOf_lt, ptr_old lastOf_lt, ptr_old nextOf_lt]
  · by_cases hkm : k = m
    · subst hkm; rw [upd_new]; exact hg
    · rw [upd_old (by omega)]; exact h.base k (by omega)
end
end Go.Proofs.YtoindammaphefaaDoor
