/- Trees as lists of nodes: how they lie in memory. No program in sight. -/
import Derived.Test.YtoindammaphefaaGreatDoorNames
import Derived.Lib.Hide
import Derived.Maps.AppendAt
import Derived.OwnWalk
namespace Go.Proofs.YtoindammaphefaaGreatDoor
open Go.RowKit

structure NodeA where
  parent : Int
  kind : Int
  data : ByteArray
  av : Value
  attrs : List (ByteArray × ByteArray)

/-- Attributes: a slice of pairs of texts, below block B. -/
def Att (w : World) (B : Nat) (v : Value) (l : List (ByteArray × ByteArray)) : Prop :=
  ∃ A c, v = .slice A l.length c ∧ l.length ≤ c ∧ ∀ (k : Nat) p, l[k]? = some p → ∃ ad, A = some ad ∧ ad.block < B ∧ w.cell? (ad.add (k * 2)) = some (.string p.1) ∧ w.cell? (ad.add (k * 2 + 1)) = some (.string p.2)
/-- A tree: a slice of nodes, below block B. -/
def Tre (K : IntKind) (w : World) (B : Nat) (v : Value) (l : List NodeA) : Prop :=
  ∃ A c, v = .slice A l.length c ∧ l.length ≤ c ∧ ∀ (k : Nat) n, l[k]? = some n → ∃ ad, A = some ad ∧ ad.block < B ∧ w.cell? (ad.add (k * 4)) = some (.int .i64 n.parent) ∧ w.cell? (ad.add (k * 4 + 1)) = some (.int K n.kind)
    ∧ w.cell? (ad.add (k * 4 + 2)) = some (.string n.data) ∧ w.cell? (ad.add (k * 4 + 3)) = some n.av ∧ Att w B n.av n.attrs
/-- What a check hands back: true only where P holds; nothing that is there has turned. -/
def BoolIf (P : Prop) (w : World) (e : Ending) (w' : World) : Prop := ∃ b : Bool, e = .returned (.bool b) ∧ Below w.heap.size w w' ∧ (b = true → P)
theorem cell_add (w : World) (a : Addr) (i j : Nat) : w.cell? ⟨(a.add i).block, (a.add i).off + (j + 1), none⟩ = w.cell? (a.add (i + (j + 1))) := by
  congr 1
  unfold Addr.add
  split
  · rename_i h; subst h; simp
  · simp; omega
theorem cell_add1 (w : World) (a : Addr) (i : Nat) {v : Option Value} (h : w.cell? (a.add (i + 1)) = v) : w.cell? ⟨(a.add i).block, (a.add i).off + 1, none⟩ = v := (cell_add w a i 0).trans h
theorem cell_add2 (w : World) (a : Addr) (i : Nat) {v : Option Value} (h : w.cell? (a.add (i + 2)) = v) : w.cell? ⟨(a.add i).block, (a.add i).off + 2, none⟩ = v := (cell_add w a i 1).trans h
theorem cell_add3 (w : World) (a : Addr) (i : Nat) {v : Option Value} (h : w.cell? (a.add (i + 3)) = v) : w.cell? ⟨(a.add i).block, (a.add i).off + 3, none⟩ = v := (cell_add w a i 2).trans h
theorem add_lt (a : Addr) (n : Nat) : (a.add n).block = a.block := by unfold Addr.add; split <;> rfl
theorem Att.below {w w' : World} {B : Nat} {v : Value} {l : List (ByteArray × ByteArray)} (h : Att w B v l) (hb : Below B w w') : Att w' B v l := by
  obtain ⟨A, c, hv, hcap, hc⟩ := h
  refine ⟨A, c, hv, hcap, fun k p hk => ?_⟩
  obtain ⟨ad, hA, hB, h0, h1⟩ := hc k p hk
  exact ⟨ad, hA, hB, (hb.cell (by rw [add_lt]; exact hB)).trans h0, (hb.cell (by rw [add_lt]; exact hB)).trans h1⟩
theorem Att.more {w : World} {B B' : Nat} {v : Value} {l : List (ByteArray × ByteArray)} (h : Att w B v l) (hb : B ≤ B') : Att w B' v l := by
  obtain ⟨A, c, hv, hcap, hc⟩ := h
  refine ⟨A, c, hv, hcap, fun k p hk => ?_⟩
  obtain ⟨ad, hA, hB, h0, h1⟩ := hc k p hk
  exact ⟨ad, hA, Nat.lt_of_lt_of_le hB hb, h0, h1⟩
theorem Tre.below {K : IntKind} {w w' : World} {B : Nat} {v : Value} {l : List NodeA} (h : Tre K w B v l) (hb : Below B w w') : Tre K w' B v l := by
  obtain ⟨A, c, hv, hcap, hc⟩ := h
  refine ⟨A, c, hv, hcap, fun k p hk => ?_⟩
  obtain ⟨ad, hA, hB, h0, h1, h2, h3, h4⟩ := hc k p hk
  exact ⟨ad, hA, hB, (hb.cell (by rw [add_lt]; exact hB)).trans h0, (hb.cell (by rw [add_lt]; exact hB)).trans h1, (hb.cell (by rw [add_lt]; exact hB)).trans h2, (hb.cell (by rw [add_lt]; exact hB)).trans h3, h4.below hb⟩
theorem Tre.more {K : IntKind} {w : World} {B B' : Nat} {v : Value} {l : List NodeA} (h : Tre K w B v l) (hb : B ≤ B') : Tre K w B' v l := by
  obtain ⟨A, c, hv, hcap, hc⟩ := h
  refine ⟨A, c, hv, hcap, fun k p hk => ?_⟩
  obtain ⟨ad, hA, hB, h0, h1, h2, h3, h4⟩ := hc k p hk
  exact ⟨ad, hA, Nat.lt_of_lt_of_le hB hb, h0, h1, h2, h3, h4.more hb⟩
/-- Lengths that a run can count. -/
def smallA (l : List (ByteArray × ByteArray)) : Prop := l.length ≤ 140737488351232 ∧ ∀ p ∈ l, p.1.size ≤ 140737488351232 ∧ p.2.size ≤ 140737488351232
def small (l : List NodeA) : Prop := l.length ≤ 140737488351232 ∧ ∀ n ∈ l, n.data.size ≤ 140737488351232 ∧ smallA n.attrs

/-! ### Rows of structs, flat -/
def acells (p : ByteArray × ByteArray) : List Value := [.string p.1, .string p.2]
def ncells (K : IntKind) (n : NodeA) : List Value := [.int .i64 n.parent, .int K n.kind, .string n.data, n.av]
theorem flat_get {α β : Type} (f : α → List β) (sz : Nat) (h : ∀ a, (f a).length = sz) : ∀ (l : List α) (k : Nat) (a : α), l[k]? = some a → ∀ j, j < sz → (l.flatMap f)[k * sz + j]? = (f a)[j]? := by
  intro l
  induction l with
  | nil => intro k a hk; simp at hk
  | cons b l ih =>
    intro k a hk j hj
    cases k with
    | zero =>
      simp at hk
      subst hk
      rw [List.flatMap_cons, Nat.zero_mul, Nat.zero_add, List.getElem?_append_left (by rw [h]; exact hj)]
    | succ k =>
      simp at hk
      rw [List.flatMap_cons, List.getElem?_append_right (by rw [h, Nat.succ_mul]; omega), h, show (k + 1) * sz + j - sz = k * sz + j by rw [Nat.succ_mul]; omega]
      exact ih k a hk j hj
theorem flat_len {α β : Type} (f : α → List β) (sz : Nat) (h : ∀ a, (f a).length = sz) (l : List α) : (l.flatMap f).length = l.length * sz := by
  induction l with
  | nil => simp
  | cons b l ih => rw [List.flatMap_cons, List.length_append, h, ih, List.length_cons, Nat.succ_mul]; omega
/-- Attributes in a row of the call's own. -/
def OwnA (base : Nat) (e : TypeId) (w : World) (v : Value) (l : List (ByteArray × ByteArray)) : Prop := w.ownsRow base e 2 v l.length (l.flatMap acells)
theorem OwnA.att {base : Nat} {e : TypeId} {w : World} {v : Value} {l : List (ByteArray × ByteArray)} (h : OwnA base e w v l) : Att w w.heap.size v l := by
  have h' := h
  rcases h.2 with ⟨rfl, h0⟩ | ⟨g, cap, cur, rfl, hb, hg, hnc, _⟩
  · refine ⟨none, 0, by rw [h0], by omega, fun k p hk => ?_⟩
    have := (List.getElem?_eq_some_iff.1 hk).1
    omega
  · refine ⟨some ⟨g, 0, none⟩, cap, rfl, hnc, fun k p hk => ⟨⟨g, 0, none⟩, rfl, (Array.getElem?_eq_some_iff.1 hg).1, ?_, ?_⟩⟩
    · exact h'.cells (g := g) rfl (k * 2) _ (by have := flat_get acells 2 (fun _ => rfl) l k p hk 0 (by decide); simpa [acells] using this)
    · exact h'.cells (g := g) rfl (k * 2 + 1) _ (by have := flat_get acells 2 (fun _ => rfl) l k p hk 1 (by decide); simpa [acells] using this)
theorem own_types {w : World} {b b' : Nat} {e e' : TypeId} {s s' n n' : Nat} {v v' : Value} {xs xs' : List Value} (h : w.ownsRow b e s v n xs) (h' : w.ownsRow b' e' s' v' n' xs') (hne : e ≠ e') : v.ownBlock = none ∨ v.ownBlock ≠ v'.ownBlock := by
  rcases h.2 with ⟨rfl, _⟩ | ⟨g, cap, cur, rfl, _, hg, _⟩
  · exact .inl rfl
  rcases h'.2 with ⟨rfl, _⟩ | ⟨g', cap', cur', rfl, _, hg', _⟩
  · exact .inr (by simp [Value.ownBlock])
  · refine .inr fun he => ?_
    simp only [Value.ownBlock, Option.some.injEq] at he
    subst he
    rw [hg] at hg'
    injection hg' with hg'
    injection hg' with _ ht
    exact hne ht
theorem own_keep {w w' : World} {b : Nat} {e : TypeId} {s n : Nat} {v : Value} {xs : List Value} (h : w.ownsRow b e s v n xs) (hk : ∀ k, v.ownBlock = some k → w'.heap[k]? = w.heap[k]?) : w'.ownsRow b e s v n xs := by
  refine ⟨h.1, ?_⟩
  rcases h.2 with hn | ⟨g, cap, cur, rfl, hb, hg, rest⟩
  · exact .inl hn
  · exact .inr ⟨g, cap, cur, rfl, hb, (hk g rfl).trans hg, rest⟩
theorem own_slice {w : World} {b : Nat} {e : TypeId} {s n : Nat} {v : Value} {xs : List Value} (h : w.ownsRow b e s v n xs) : ∃ A c, v = .slice A n c := by
  rcases h.2 with ⟨rfl, rfl⟩ | ⟨g, cap, cur, rfl, _⟩
  · exact ⟨_, _, rfl⟩
  · exact ⟨_, _, rfl⟩
theorem heap_set_same {w : World} {g : Nat} {cs : Array Value} {e : TypeId} (h : w.heap[g]? = some (.cells cs e (0, 0))) (i : Nat) (u : Value) : (w.setCell ⟨g, i, none⟩ u).heap[g]? = some (.cells (cs.setIfInBounds i u) e (0, 0)) := by
  simp [World.setCell, Array.getElem?_modify, h]
theorem blk_frozen {w : World} {g : Nat} {cs : Array Value} {e : TypeId} (h : w.heap[g]? = some (.cells cs e (0, 0))) (i : Nat) : w.frozen? ⟨g, i, none⟩ = false := by simp [World.frozen?, h]
theorem blk_lt {w : World} {g : Nat} {o : Obj} (h : w.heap[g]? = some o) : g < w.heap.size := (Array.getElem?_eq_some_iff.1 h).1
theorem take_next {α : Type} {l : List α} {k : Nat} {a : α} (h : l[k]? = some a) : l.take (k + 1) = l.take k ++ [a] := by
  rw [List.take_add_one, h]; rfl
theorem cell_four (w : World) (a b c d : Value) (e : TypeId) : ∀ j u, [a, b, c, d][j]? = some u → (w.alloc (.cells #[a, b, c, d] e)).cell? ((⟨w.heap.size, 0, none⟩ : Addr).add j) = some u := by
  intro j u hu
  have hadd : (⟨w.heap.size, 0, none⟩ : Addr).add j = ⟨w.heap.size, j, none⟩ := by unfold Addr.add; split <;> simp_all
  rw [hadd, cell_of_row (w.alloc (.cells #[a, b, c, d] e)) w.heap.size j #[a, b, c, d] e (0, 0) (heap_alloc_new w _)]
  simpa using hu
/-- What is stated of a node, whatever row its attributes lie in. -/
def core (n : NodeA) : Int × Int × ByteArray × List (ByteArray × ByteArray) := (n.parent, n.kind, n.data, n.attrs)
/-- A tree in a row of the call's own. -/
def OwnT (K : IntKind) (base : Nat) (e ea : TypeId) (w : World) (v : Value) (l : List NodeA) : Prop := w.ownsRow base e 4 v l.length (l.flatMap (ncells K)) ∧ ∀ n ∈ l, OwnA base ea w n.av n.attrs
theorem OwnT.tre {K : IntKind} {base : Nat} {e ea : TypeId} {w : World} {v : Value} {l : List NodeA} (h : OwnT K base e ea w v l) : Tre K w w.heap.size v l := by
  obtain ⟨h, ha⟩ := h
  have h' := h
  rcases h.2 with ⟨rfl, h0⟩ | ⟨g, cap, cur, rfl, hb, hg, hnc, _⟩
  · refine ⟨none, 0, by rw [h0], by omega, fun k p hk => ?_⟩
    have := (List.getElem?_eq_some_iff.1 hk).1
    omega
  · refine ⟨some ⟨g, 0, none⟩, cap, rfl, hnc, fun k p hk => ⟨⟨g, 0, none⟩, rfl, (Array.getElem?_eq_some_iff.1 hg).1, ?_, ?_, ?_, ?_, (ha p (List.mem_of_getElem? hk)).att⟩⟩
    · exact h'.cells (g := g) rfl (k * 4) _ (by have := flat_get (ncells K) 4 (fun _ => rfl) l k p hk 0 (by decide); simpa [ncells] using this)
    · exact h'.cells (g := g) rfl (k * 4 + 1) _ (by have := flat_get (ncells K) 4 (fun _ => rfl) l k p hk 1 (by decide); simpa [ncells] using this)
    · exact h'.cells (g := g) rfl (k * 4 + 2) _ (by have := flat_get (ncells K) 4 (fun _ => rfl) l k p hk 2 (by decide); simpa [ncells] using this)
    · exact h'.cells (g := g) rfl (k * 4 + 3) _ (by have := flat_get (ncells K) 4 (fun _ => rfl) l k p hk 3 (by decide); simpa [ncells] using this)
/-- A tree under way: its rows lie below block B. -/
def OwnBelow (B : Nat) (v : Value) (l : List NodeA) : Prop := (∀ k, v.ownBlock = some k → k < B) ∧ ∀ n ∈ l, ∀ k, n.av.ownBlock = some k → k < B
theorem OwnT.lt {K : IntKind} {base : Nat} {e ea : TypeId} {w : World} {v : Value} {l : List NodeA} (h : OwnT K base e ea w v l) : OwnBelow w.heap.size v l := ⟨fun k hk => (h.1.lt k hk).2, fun n hn k hk => ((h.2 n hn).lt k hk).2⟩
theorem OwnT.keep {K : IntKind} {base B : Nat} {e ea : TypeId} {w w' : World} {v : Value} {l : List NodeA} (h : OwnT K base e ea w v l) (hB : OwnBelow B v l) (hb : Below B w w') : OwnT K base e ea w' v l :=
  ⟨own_keep h.1 fun k hk => hb.block k (hB.1 k hk), fun n hn => own_keep (h.2 n hn) fun k hk => hb.block k (hB.2 n hn k hk)⟩

def NodesEnd (K : IntKind) (e ea : TypeId) (l : List NodeA) (w : World) (en : Ending) (w' : World) : Prop := ∃ v' l', en = .returned v' ∧ OwnT K w.heap.size e ea w' v' l' ∧ l'.map core = l.map core ∧ Below w.heap.size w w'
end Go.Proofs.YtoindammaphefaaGreatDoor
