/- Selectors as trees: how they lie in memory, what is known of those that Group lets through. No program in sight. -/
import Derived.Test.YtoindammaphefaaGreatDoorNTree
import Derived.Test.YtoindammaphefaaGreatDoorPos
import Derived.Test.YtoindammaphefaaGreatDoorSName
namespace Go.Proofs.YtoindammaphefaaGreatDoor
open Go.RowKit

/-- A simple selector as the laws and the reference tell it. -/
inductive Sim where
  | mk (kind : Int) (name value : ByteArray) (fold : Bool) (a b : Int) (last ofType : Bool) (subs : List (List (ByteArray × List Sim)))
namespace Sim
def kind : Sim → Int | mk k _ _ _ _ _ _ _ _ => k
def name : Sim → ByteArray | mk _ n _ _ _ _ _ _ _ => n
def value : Sim → ByteArray | mk _ _ v _ _ _ _ _ _ => v
def fold : Sim → Bool | mk _ _ _ f _ _ _ _ _ => f
def a : Sim → Int | mk _ _ _ _ a _ _ _ _ => a
def b : Sim → Int | mk _ _ _ _ _ b _ _ _ => b
def last : Sim → Bool | mk _ _ _ _ _ _ l _ _ => l
def ofType : Sim → Bool | mk _ _ _ _ _ _ _ o _ => o
def subs : Sim → List (List (ByteArray × List Sim)) | mk _ _ _ _ _ _ _ _ g => g
end Sim
abbrev Cmp := ByteArray × List Sim
abbrev Cpx := List Cmp
abbrev Grp := List Cpx

/-! ### Rows -/
/-- A slice of things of n cells each, in blocks of P. -/
def Row {α : Type} (n : Nat) (R : (Nat → Option Value) → α → Prop) (w : World) (P : Nat → Prop) (v : Value) (l : List α) : Prop :=
  ∃ A c, v = .slice A l.length c ∧ l.length ≤ c ∧ ∀ (k : Nat) x, l[k]? = some x → ∃ ad, A = some ad ∧ P ad.block ∧ R (fun j => w.cell? (ad.add (k * n + j))) x
/-- What of two worlds is alike in the blocks of P. -/
def Alike (P : Nat → Prop) (w w' : World) : Prop := ∀ b, P b → w'.heap[b]? = w.heap[b]?
theorem Alike.cell {P : Nat → Prop} {w w' : World} (h : Alike P w w') {a : Addr} (ha : P a.block) : w'.cell? a = w.cell? a := World.cell?_of_block (h _ ha)
theorem Row.turn {α : Type} {n : Nat} {R R' : (Nat → Option Value) → α → Prop} {w w' : World} {P P' : Nat → Prop} {v : Value} {l : List α} (h : Row n R w P v l)
    (hp : ∀ b, P b → P' b) (hw : Alike P w w') (hR : ∀ f x, x ∈ l → R f x → R' f x) : Row n R' w' P' v l := by
  obtain ⟨A, c, hv, hc, hk⟩ := h
  refine ⟨A, c, hv, hc, fun k x hx => ?_⟩
  obtain ⟨ad, hA, hP, hr⟩ := hk k x hx
  refine ⟨ad, hA, hp _ hP, ?_⟩
  have e : (fun j => w'.cell? (ad.add (k * n + j))) = fun j => w.cell? (ad.add (k * n + j)) := funext fun j => hw.cell (by rw [add_lt]; exact hP)
  rw [e]
  exact hR _ _ (List.mem_of_getElem? hx) hr
theorem Row.map {α β : Type} {n : Nat} {R : (Nat → Option Value) → α → Prop} {R' : (Nat → Option Value) → β → Prop} {w : World} {P : Nat → Prop} {v : Value} {l : List α} (g : α → β) (h : Row n R w P v l)
    (hR : ∀ f x, x ∈ l → R f x → R' f (g x)) : Row n R' w P v (l.map g) := by
  obtain ⟨A, c, hv, hc, hk⟩ := h
  refine ⟨A, c, by rw [hv, List.length_map], by rw [List.length_map]; exact hc, fun k y hy => ?_⟩
  rw [List.getElem?_map] at hy
  obtain ⟨x, hx, rfl⟩ := Option.map_eq_some_iff.1 hy
  obtain ⟨ad, hA, hP, hr⟩ := hk k x hx
  exact ⟨ad, hA, hP, hR _ _ (List.mem_of_getElem? hx) hr⟩
/-- A row of the call's own reads as a row. -/
theorem own_row {α : Type} {base n : Nat} {e : TypeId} {w : World} {v : Value} {l : List α} (cells : α → List Value) (hn : ∀ a, (cells a).length = n) (h : w.ownsRow base e n v l.length (l.flatMap cells)) :
    Row n (fun f x => ∀ j, j < n → f j = (cells x)[j]?) w (fun b => v.ownBlock = some b) v l := by
  have h' := h
  rcases h.2 with ⟨rfl, h0⟩ | ⟨g, cap, cur, rfl, hb, hg, hnc, _⟩
  · refine ⟨none, 0, by rw [h0], by omega, fun k p hk => ?_⟩
    have := (List.getElem?_eq_some_iff.1 hk).1
    omega
  · refine ⟨some ⟨g, 0, none⟩, cap, rfl, hnc, fun k p hk => ⟨⟨g, 0, none⟩, rfl, rfl, fun j hj => ?_⟩⟩
    have hjl : j < (cells p).length := by rw [hn]; exact hj
    have h2 := flat_get cells n hn l k p hk j hj
    have h3 : (cells p)[j]? = some (cells p)[j] := List.getElem?_eq_getElem hjl
    rw [h3] at h2 ⊢
    exact h'.cells (g := g) rfl (k * n + j) _ h2

/-! ### Selectors in memory -/
def SimIn (G : Value → Grp → Prop) (f : Nat → Option Value) (s : Sim) : Prop :=
  f 0 = some (.int .i64 s.kind) ∧ f 1 = some (.string s.name) ∧ f 2 = some (.string s.value) ∧ f 3 = some (.bool s.fold) ∧ f 4 = some (.int .i64 s.a) ∧ f 5 = some (.int .i64 s.b) ∧ f 6 = some (.bool s.last) ∧ f 7 = some (.bool s.ofType) ∧ ∃ v, f 8 = some v ∧ G v s.subs
def PartsIn (G : Value → Grp → Prop) (w : World) (P : Nat → Prop) (v : Value) (l : List Sim) : Prop := Row 9 (SimIn G) w P v l
def CmpIn (G : Value → Grp → Prop) (w : World) (P : Nat → Prop) (f : Nat → Option Value) (p : Cmp) : Prop := f 0 = some (.string p.1) ∧ ∃ v, f 1 = some v ∧ PartsIn G w P v p.2
def CpxIn (G : Value → Grp → Prop) (w : World) (P : Nat → Prop) (v : Value) (c : Cpx) : Prop := Row 2 (CmpIn G w P) w P v c
def CellIn (G : Value → Grp → Prop) (w : World) (P : Nat → Prop) (f : Nat → Option Value) (c : Cpx) : Prop := ∃ v, f 0 = some v ∧ CpxIn G w P v c
def GrpIn (w : World) (P : Nat → Prop) : Nat → Value → Grp → Prop
  | 0 => fun v l => l = [] ∧ ∃ A c, v = .slice A 0 c
  | d + 1 => Row 1 (CellIn (GrpIn w P d) w P) w P

theorem SimIn.turn {G G' : Value → Grp → Prop} {f : Nat → Option Value} {s : Sim} (h : SimIn G f s) (hG : ∀ v l, G v l → G' v l) : SimIn G' f s := by
  obtain ⟨h0, h1, h2, h3, h4, h5, h6, h7, v, h8, hg⟩ := h
  exact ⟨h0, h1, h2, h3, h4, h5, h6, h7, v, h8, hG _ _ hg⟩
section
variable {G G' : Value → Grp → Prop} {w w' : World} {P P' : Nat → Prop}
theorem PartsIn.turn {v : Value} {l : List Sim} (h : PartsIn G w P v l) (hp : ∀ b, P b → P' b) (hw : Alike P w w') (hG : ∀ v l, G v l → G' v l) : PartsIn G' w' P' v l :=
  Row.turn h hp hw fun _ _ _ h => h.turn hG
theorem CmpIn.turn {f : Nat → Option Value} {p : Cmp} (h : CmpIn G w P f p) (hp : ∀ b, P b → P' b) (hw : Alike P w w') (hG : ∀ v l, G v l → G' v l) : CmpIn G' w' P' f p := by
  obtain ⟨h0, v, h1, h2⟩ := h
  exact ⟨h0, v, h1, h2.turn hp hw hG⟩
theorem CpxIn.turn {v : Value} {c : Cpx} (h : CpxIn G w P v c) (hp : ∀ b, P b → P' b) (hw : Alike P w w') (hG : ∀ v l, G v l → G' v l) : CpxIn G' w' P' v c :=
  Row.turn h hp hw fun _ _ _ h => h.turn hp hw hG
theorem CellIn.turn {f : Nat → Option Value} {c : Cpx} (h : CellIn G w P f c) (hp : ∀ b, P b → P' b) (hw : Alike P w w') (hG : ∀ v l, G v l → G' v l) : CellIn G' w' P' f c := by
  obtain ⟨v, h1, h2⟩ := h
  exact ⟨v, h1, h2.turn hp hw hG⟩
theorem GrpIn.turn : ∀ {d : Nat} {v : Value} {l : Grp}, GrpIn w P d v l → (∀ b, P b → P' b) → Alike P w w' → GrpIn w' P' d v l := by
  intro d
  induction d with
  | zero => intro v l h _ _; exact h
  | succ d ih => intro v l h hp hw; exact Row.turn h hp hw fun _ _ _ h => h.turn hp hw fun v l h => ih h hp hw
end
theorem Alike.below {w w' : World} {B : Nat} (h : Below B w w') {P : Nat → Prop} (hP : ∀ b, P b → b < B) : Alike P w w' := fun b hb => h.block b (hP b hb)

/-! ### Sizes -/
def smallP (S : Grp → Prop) (l : List Sim) : Prop := l.length * 96 ≤ 140737488351232 ∧ ∀ s ∈ l, s.name.size ≤ 140737488351232 ∧ s.value.size ≤ 140737488351232 ∧ S s.subs
def smallC (S : Grp → Prop) (c : Cpx) : Prop := c.length * 40 ≤ 140737488351232 ∧ ∀ p ∈ c, p.1.size ≤ 140737488351232 ∧ smallP S p.2
def smallG : Nat → Grp → Prop
  | 0, _ => True
  | d + 1, l => l.length * 24 ≤ 140737488351232 ∧ ∀ c ∈ l, smallC (smallG d) c

/-! ### What Group lets through -/
def valueB (c : UInt8) : Prop := 32 ≤ (c.toNat : Int) ∧ (c.toNat : Int) ≤ 126 ∧ ¬ c = 34 ∧ ¬ c = 92
def valueOK (v : ByteArray) : Prop := v.size ≤ 40 ∧ ∀ c ∈ v.data.toList, valueB c
def kindOK (G : Grp → Prop) (s : Sim) : Prop :=
  ((s.kind = 0 ∨ s.kind = 2 ∨ s.kind = 3 ∨ s.kind = 4) ∧ nameOK s.name.data.toList = true)
  ∨ (s.kind = 1 ∨ s.kind = 12 ∨ s.kind = 13)
  ∨ ((5 ≤ s.kind ∧ s.kind ≤ 10 ∨ s.kind = 16) ∧ nameOK s.name.data.toList = true ∧ valueOK s.value)
  ∨ (s.kind = 11 ∧ -9 ≤ s.a ∧ s.a ≤ 9 ∧ -9 ≤ s.b ∧ s.b ≤ 9)
  ∨ ((s.kind = 14 ∨ s.kind = 15) ∧ G s.subs)
def simOK (G : Grp → Prop) (s : Sim) : Prop := (s.fold = true → 5 ≤ s.kind ∧ s.kind ≤ 10) ∧ (s.last = true ∨ s.ofType = true → s.kind = 11) ∧ kindOK G s
def partsOK (G : Grp → Prop) (l : List Sim) : Prop := 1 ≤ l.length ∧ l.length ≤ 4 ∧ ∀ k s, l[k]? = some s → simOK G s ∧ (0 < k → 1 < s.kind)
def strB32 : ByteArray := ⟨#[32]⟩
def strB62 : ByteArray := ⟨#[62]⟩
def strB43 : ByteArray := ⟨#[43]⟩
def strB126 : ByteArray := ⟨#[126]⟩
def joinOK (j : ByteArray) : Prop := j = strB32 ∨ j = strB62 ∨ j = strB43 ∨ j = strB126
def cpxOK (G : Grp → Prop) (c : Cpx) : Prop := 1 ≤ c.length ∧ c.length ≤ 4 ∧ ∀ k p, c[k]? = some p → partsOK G p.2 ∧ (0 < k → joinOK p.1)
def grpOK : Nat → Grp → Prop
  | 0, _ => False
  | d + 1, l => 1 ≤ l.length ∧ l.length ≤ 3 ∧ ∀ c ∈ l, cpxOK (grpOK d) c
end Go.Proofs.YtoindammaphefaaGreatDoor
