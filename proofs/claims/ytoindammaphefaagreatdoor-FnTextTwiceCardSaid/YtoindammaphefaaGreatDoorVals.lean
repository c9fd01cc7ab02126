/- What the parser hands back for a selector: how it lies in memory. No program in sight but for its types' numbers. -/
import Derived.Test.YtoindammaphefaaGreatDoorNms
namespace Go.Proofs.YtoindammaphefaaGreatDoor
open Go.RowKit

/-- The parser at block g stands at i. -/
structure Prs (g : Nat) (s : ByteArray) (dep : Int) (i : Nat) (w : World) : Prop where
  c0 : w.cell? ⟨g, 0, none⟩ = some (.string s)
  c1 : w.cell? ⟨g, 1, none⟩ = some (.int .i64 i)
  c2 : w.cell? ⟨g, 2, none⟩ = some (.int .i64 dep)
  fz : ∀ o, w.frozen? ⟨g, o, none⟩ = false
theorem Prs.pos {g : Nat} {s : ByteArray} {dep : Int} {i j : Nat} {w w' : World} (h : Prs g s dep i w) (hp : Pos w w' g j) : Prs g s dep j w' :=
  ⟨(hp.cell (by decide)).trans h.c0, hp.pos h.c1, (hp.cell (by decide)).trans h.c2, fun o => (hp.frozen o).trans (h.fz o)⟩
theorem Prs.lt {g : Nat} {s : ByteArray} {dep : Int} {i : Nat} {w : World} (h : Prs g s dep i w) : g < w.heap.size := cell_lt h.c0

/-- A byte string. -/
def bs (l : List UInt8) : ByteArray := ⟨l.toArray⟩
theorem bs_data (l : List UInt8) : (bs l).data.toList = l := by simp [bs]
def attrV (s : Sim) : Value := .iface 108 (.agg #[.string s.name, .string s.value, .string (bs (opT s.kind)), .bool s.fold])
structure SimV (G : Value → Grp → Prop) (v : Value) (s : Sim) : Prop where
  tag : s.kind = 0 → v = .iface 96 (.agg #[.string s.name])
  id : s.kind = 2 → v = .iface 100 (.agg #[.string s.name])
  cls : s.kind = 3 → v = .iface 104 (.agg #[.string s.name])
  has : s.kind = 4 → v = .iface 108 (.agg #[.string s.name, .string ByteArray.empty, .string ByteArray.empty, .bool false])
  attr : 5 ≤ s.kind ∧ s.kind ≤ 10 ∨ s.kind = 16 → v = attrV s
  nth : s.kind = 11 → v = .iface 129 (.agg #[.int .i64 s.a, .int .i64 s.b, .bool s.last, .bool s.ofType])
  empty : s.kind = 12 → v = .iface 134 (.agg #[])
  root : s.kind = 13 → v = .iface 135 (.agg #[])
  rel : s.kind = 14 ∨ s.kind = 15 → ∃ x, v = .iface 121 (.agg #[.string (bs (relName s.kind)), x]) ∧ G x s.subs
def SimF (G : Value → Grp → Prop) (f : Nat → Option Value) (s : Sim) : Prop := ∃ x, f 0 = some x ∧ SimV G x s
def SelsV (G : Value → Grp → Prop) (w : World) (P : Nat → Prop) (v : Value) (l : List Sim) : Prop := Row 1 (SimF G) w P v l
/-- What is kept of a list of simple selectors: all but the star. -/
def sels (l : List Sim) : List Sim := l.filter fun s => !decide (s.kind = 1)
def compV (x : Value) : Value := .iface 114 (.agg #[x, .string ByteArray.empty])
def CmpV (G : Value → Grp → Prop) (w : World) (P : Nat → Prop) (v : Value) (l : List Sim) : Prop :=
  (∃ s, sels l = [s] ∧ SimV G v s) ∨ ((sels l).length ≠ 1 ∧ ∃ x, v = compV x ∧ SelsV G w P x (sels l))
def joinB (j : ByteArray) : Int := (j.data.toList.headD 0).toNat
def combV (f : Value) (j : Int) (s : Value) : Value := .iface 91 (.agg #[f, .int .u8 j, s])
inductive CpxV (C : Value → List Sim → Prop) : Value → Cpx → Prop
  | one {v : Value} {p : Cmp} : C v p.2 → CpxV C v [p]
  | more {f s : Value} {c : Cpx} {p : Cmp} : CpxV C f c → C s p.2 → CpxV C (combV f (joinB p.1) s) (c ++ [p])
def CpxF (C : Value → List Sim → Prop) (f : Nat → Option Value) (c : Cpx) : Prop := ∃ x, f 0 = some x ∧ CpxV C x c
def GrpV (w : World) (P : Nat → Prop) : Nat → Value → Grp → Prop
  | 0 => fun _ _ => False
  | d + 1 => Row 1 (CpxF (CmpV (GrpV w P d) w P)) w P

section
variable {G G' : Value → Grp → Prop} {w w' : World} {P P' : Nat → Prop}
theorem SimV.turn {v : Value} {s : Sim} (h : SimV G v s) (hG : ∀ v l, G v l → G' v l) : SimV G' v s :=
  { h with rel := fun e => by obtain ⟨x, h1, h2⟩ := h.rel e; exact ⟨x, h1, hG _ _ h2⟩ }
theorem SimF.turn {f : Nat → Option Value} {s : Sim} (h : SimF G f s) (hG : ∀ v l, G v l → G' v l) : SimF G' f s := by
  obtain ⟨x, h1, h2⟩ := h; exact ⟨x, h1, h2.turn hG⟩
theorem SelsV.turn {v : Value} {l : List Sim} (h : SelsV G w P v l) (hp : ∀ b, P b → P' b) (hw : Alike P w w') (hG : ∀ v l, G v l → G' v l) : SelsV G' w' P' v l :=
  Row.turn h hp hw fun _ _ _ h => h.turn hG
theorem CmpV.turn {v : Value} {l : List Sim} (h : CmpV G w P v l) (hp : ∀ b, P b → P' b) (hw : Alike P w w') (hG : ∀ v l, G v l → G' v l) : CmpV G' w' P' v l := by
  rcases h with ⟨s, h1, h2⟩ | ⟨h1, x, h2, h3⟩
  · exact .inl ⟨s, h1, h2.turn hG⟩
  · exact .inr ⟨h1, x, h2, h3.turn hp hw hG⟩
theorem CpxV.turn {C C' : Value → List Sim → Prop} {v : Value} {c : Cpx} (h : CpxV C v c) (hC : ∀ v l, C v l → C' v l) : CpxV C' v c := by
  induction h with
  | one h => exact .one (hC _ _ h)
  | more _ h ih => exact .more ih (hC _ _ h)
theorem CpxF.turn {C C' : Value → List Sim → Prop} {f : Nat → Option Value} {c : Cpx} (h : CpxF C f c) (hC : ∀ v l, C v l → C' v l) : CpxF C' f c := by
  obtain ⟨x, h1, h2⟩ := h; exact ⟨x, h1, h2.turn hC⟩
theorem GrpV.turn : ∀ {d : Nat} {v : Value} {l : Grp}, GrpV w P d v l → (∀ b, P b → P' b) → Alike P w w' → GrpV w' P' d v l := by
  intro d
  induction d with
  | zero => intro v l h _ _; exact h
  | succ d ih => intro v l h hp hw; exact Row.turn h hp hw fun _ _ _ h => h.turn fun v l h => h.turn hp hw fun v l h => ih h hp hw
end
/-- The blocks that are new from w to w'. -/
def New (w w' : World) (b : Nat) : Prop := w.heap.size ≤ b ∧ b < w'.heap.size
theorem Alike.pos {w w1 w2 : World} {g j : Nat} (h : Pos w1 w2 g j) (hg : g < w.heap.size) : Alike (New w w1) w1 w2 := fun b hb => h.block b hb.2 (by have := hb.1; omega)
theorem New.more {w w1 w2 : World} {g j : Nat} (h : Pos w1 w2 g j) (b : Nat) (hb : New w w1 b) : New w w2 b := ⟨hb.1, Nat.lt_of_lt_of_le hb.2 h.size⟩
theorem New.back {w w1 w2 : World} {g j : Nat} (h : Pos w w1 g j) (b : Nat) (hb : New w1 w2 b) : New w w2 b := ⟨Nat.le_trans h.size hb.1, hb.2⟩
theorem Alike.refl (P : Nat → Prop) (w : World) : Alike P w w := fun _ _ => rfl
/-- What a function that reads a selector hands back. -/
def SelEnd (V : World → Value → Prop) (g E : Nat) (w : World) (e : Ending) (w' : World) : Prop :=
  ∃ v, e = .returned (.tuple #[v, .nilIface]) ∧ V w' v ∧ Pos w w' g E
end Go.Proofs.YtoindammaphefaaGreatDoor
