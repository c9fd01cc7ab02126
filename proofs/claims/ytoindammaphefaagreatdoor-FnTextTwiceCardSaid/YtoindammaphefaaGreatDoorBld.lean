/- Slices that a call builds by append, of things that lie in new blocks. No program in sight. -/
import Derived.Test.YtoindammaphefaaGreatDoorVals
import Derived.Maps.AppendAt
namespace Go.Proofs.YtoindammaphefaaGreatDoor
open Go.RowKit

/-- R is kept where the blocks that it names are. -/
def Turns {α : Type} (R : World → (Nat → Prop) → Value → α → Prop) : Prop := ∀ w w' P P' x a, R w P x a → (∀ b, P b → P' b) → Alike P w w' → R w' P' x a
/-- Things that were gathered from w on, in the slice v. -/
def Bld {α : Type} (R : World → (Nat → Prop) → Value → α → Prop) (e : TypeId) (w wr : World) (v : Value) (l : List α) : Prop :=
  ∃ ls : List (Value × α), ls.map (·.2) = l ∧ wr.ownsRow w.heap.size e 1 v l.length (ls.flatMap fun q => [q.1]) ∧ ∀ q ∈ ls, R wr (fun b => New w wr b ∧ v.ownBlock ≠ some b) q.1 q.2
section
variable {α : Type} {R : World → (Nat → Prop) → Value → α → Prop} {e : TypeId} {w wr w2 : World} {v : Value} {l : List α}
theorem Bld.nil : Bld R e w wr (.slice none 0 0) [] := ⟨[], rfl, World.ownsRow_nil _ _ _ _, fun q hq => by cases hq⟩
theorem Bld.slice (h : Bld R e w wr v l) : ∃ A c, v = .slice A l.length c := by obtain ⟨ls, _, h2, _⟩ := h; exact own_slice h2
theorem Bld.lt (h : Bld R e w wr v l) (b : Nat) (hb : v.ownBlock = some b) : New w wr b := by
  obtain ⟨ls, _, h2, _⟩ := h
  exact h2.lt b hb
theorem Bld.on (hT : Turns R) (h : Bld R e w wr v l) (ha : Alike (New w wr) wr w2) (hs : wr.heap.size ≤ w2.heap.size) : Bld R e w w2 v l := by
  obtain ⟨ls, h1, h2, h3⟩ := h
  refine ⟨ls, h1, own_keep h2 fun k hk => ha k (h2.lt k hk), fun q hq => ?_⟩
  exact hT _ _ _ _ _ _ (h3 q hq) (fun b hb => ⟨⟨hb.1.1, Nat.lt_of_lt_of_le hb.1.2 hs⟩, hb.2⟩) fun b hb => ha b hb.1
theorem Bld.pos {g j : Nat} (hT : Turns R) (h : Bld R e w wr v l) (hp : Pos wr w2 g j) (hg : g < w.heap.size) : Bld R e w w2 v l := h.on hT (Alike.pos hp hg) hp.size
theorem Bld.alloc (hT : Turns R) (h : Bld R e w wr v l) (o : Obj) : Bld R e w (wr.alloc o) v l := h.on hT (fun b hb => heap_alloc_old _ _ hb.2) (by simp)
theorem Bld.drewN (hT : Turns R) (h : Bld R e w wr v l) (n : Nat) : Bld R e w (wr.drewN n) v l := h.on hT (fun _ _ => rfl) (Nat.le_refl _)
/-- What the law on append asks, and what it leaves. -/
theorem Bld.own (h : Bld R e w wr v l) : ∃ xs, wr.ownsRow w.heap.size e 1 v l.length xs ∧ ∀ (x : Value) (a : α) (v' : Value) (w3 : World) (_ : Turns R), R wr (fun b => New w wr b ∧ v.ownBlock ≠ some b) x a →
    w3.ownsRow w.heap.size e 1 v' (l.length + 1) (xs ++ [x]) → wr.grownBy w3 v.ownBlock → (v'.ownBlock = v.ownBlock ∨ v'.ownBlock = some wr.heap.size) → Bld R e w w3 v' (l ++ [a]) := by
  obtain ⟨ls, h1, h2, h3⟩ := h
  refine ⟨_, h2, fun x a v' w3 hT hx hown hg hat => ?_⟩
  have hne : ∀ b, New w wr b → v.ownBlock ≠ some b → v'.ownBlock ≠ some b := fun b hb hv => by
    rcases hat with h | h
    · rw [h]; exact hv
    · rw [h]; intro e; injection e with e; have := hb.2; omega
  have hal : Alike (fun b => New w wr b ∧ v.ownBlock ≠ some b) wr w3 := fun b hb => hg.block b hb.1.2 (fun e => hb.2 e.symm)
  have hpp : ∀ b, New w wr b ∧ v.ownBlock ≠ some b → New w w3 b ∧ v'.ownBlock ≠ some b := fun b hb => ⟨⟨hb.1.1, Nat.lt_of_lt_of_le hb.1.2 hg.size⟩, hne b hb.1 hb.2⟩
  refine ⟨ls ++ [(x, a)], by simp [h1], by simpa using hown, fun q hq => ?_⟩
  rcases List.mem_append.1 hq with hq | hq
  · exact hT _ _ _ _ _ _ (h3 q hq) hpp hal
  · simp at hq
    subst hq
    exact hT _ _ _ _ _ _ hx hpp hal
theorem Bld.row (hT : Turns R) (h : Bld R e w wr v l) : Row 1 (fun f a => ∃ x, f 0 = some x ∧ R wr (New w wr) x a) wr (New w wr) v l := by
  obtain ⟨ls, h1, h2, h3⟩ := h
  have hl : l.length = ls.length := by rw [← h1, List.length_map]
  have h2' := h2
  rw [hl] at h2'
  have hr := own_row (fun q : Value × α => [q.1]) (fun _ => rfl) h2'
  have hm := Row.map (g := fun q : Value × α => q.2) (R' := fun f a => ∃ x, f 0 = some x ∧ R wr (New w wr) x a) hr fun f q hq hf => ⟨q.1, by have := hf 0 (by decide); simpa using this, hT _ _ _ _ _ _ (h3 q hq) (fun b hb => hb.1) (Alike.refl _ _)⟩
  rw [h1] at hm
  exact Row.turn hm (fun b hb => h2.lt b hb) (Alike.refl _ _) fun _ _ _ h => h
/-- A thing that was read behind it, into newer blocks. -/
theorem Bld.fresh (hT : Turns R) (h : Bld R e w wr v l) {x : Value} {a : α} (hx : R w2 (New wr w2) x a) (hs : w.heap.size ≤ wr.heap.size) : R w2 (fun b => New w w2 b ∧ v.ownBlock ≠ some b) x a :=
  hT _ _ _ _ _ _ hx (fun b hb => ⟨⟨Nat.le_trans hs hb.1, hb.2⟩, fun e => by have := (h.lt b e).2; have := hb.1; omega⟩) (Alike.refl _ _)
end
theorem turns_sim (d : Nat) : Turns fun w P v s => SimV (GrpV w P d) v s := fun _ _ _ _ _ _ h hp ha => h.turn fun _ _ h => h.turn hp ha
theorem turns_cpx (d : Nat) : Turns fun w P v c => CpxV (CmpV (GrpV w P d) w P) v c := fun _ _ _ _ _ _ h hp ha => h.turn fun _ _ h => h.turn hp ha fun _ _ h => h.turn hp ha
end Go.Proofs.YtoindammaphefaaGreatDoor
