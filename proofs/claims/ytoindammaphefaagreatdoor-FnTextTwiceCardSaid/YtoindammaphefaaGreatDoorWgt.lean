/- Weights of selectors: plain sums and maxima of triples. No program in sight. -/
import Derived.Test.YtoindammaphefaaGreatDoorAst
namespace Go.Proofs.YtoindammaphefaaGreatDoor
open Go.RowKit

structure T3 where
  a : Int
  b : Int
  c : Int
def zero3 : T3 := ⟨0, 0, 0⟩
def add3 (x y : T3) : T3 := ⟨x.a + y.a, x.b + y.b, x.c + y.c⟩
def lt3 (a0 a1 a2 b0 b1 b2 : Int) : Bool := decide (a0 < b0) || (decide (a0 = b0) && (decide (a1 < b1) || (decide (a1 = b1) && decide (a2 < b2))))
def ltT (x y : T3) : Bool := lt3 x.a x.b x.c y.a y.b y.c
def max3 (x y : T3) : T3 := if ltT x y = true then y else x
def val3 (x : T3) : Value := .agg #[.int .i64 x.a, .int .i64 x.b, .int .i64 x.c]
def sum3 {α : Type} (f : α → T3) : List α → T3
  | [] => zero3
  | x :: l => add3 (f x) (sum3 f l)
theorem add3_zero (x : T3) : add3 x zero3 = x := by simp [add3, zero3]
theorem zero_add3 (x : T3) : add3 zero3 x = x := by simp [add3, zero3]
theorem add3_assoc (x y z : T3) : add3 (add3 x y) z = add3 x (add3 y z) := by simp [add3, Int.add_assoc]
theorem sum3_append {α : Type} (f : α → T3) (l k : List α) : sum3 f (l ++ k) = add3 (sum3 f l) (sum3 f k) := by
  induction l with
  | nil => simp [sum3, zero_add3]
  | cons x l ih => simp [sum3, ih, add3_assoc]
theorem sum3_snoc {α : Type} (f : α → T3) (l : List α) (x : α) : sum3 f (l ++ [x]) = add3 (sum3 f l) (f x) := by simp [sum3_append, sum3, add3_zero]
theorem take_next' {α : Type} {l : List α} {k : Nat} {x : α} (h : l[k]? = some x) : l.take (k + 1) = l.take k ++ [x] := by
  rw [List.take_add_one, h]; rfl
theorem sum3_take {α : Type} (f : α → T3) {l : List α} {k : Nat} {x : α} (h : l[k]? = some x) : sum3 f (l.take (k + 1)) = add3 (sum3 f (l.take k)) (f x) := by
  rw [take_next' h, sum3_snoc]
def simW (G : Grp → T3) (s : Sim) : T3 :=
  if s.kind = 0 then ⟨0, 0, 1⟩ else if s.kind = 1 then zero3 else if s.kind = 2 then ⟨1, 0, 0⟩ else if s.kind = 14 ∨ s.kind = 15 then G s.subs else ⟨0, 1, 0⟩
def partsW (G : Grp → T3) (l : List Sim) : T3 := sum3 (simW G) l
def cpxW (G : Grp → T3) (c : Cpx) : T3 := sum3 (fun p : Cmp => partsW G p.2) c
def maxL {α : Type} (f : α → T3) (l : List α) : T3 := l.foldl (fun t c => max3 t (f c)) zero3
theorem maxL_take {α : Type} (f : α → T3) {l : List α} {k : Nat} {x : α} (h : l[k]? = some x) : maxL f (l.take (k + 1)) = max3 (maxL f (l.take k)) (f x) := by
  rw [take_next' h]; simp [maxL, List.foldl_append]
def grpW : Nat → Grp → T3
  | 0, _ => zero3
  | d + 1, l => maxL (cpxW (grpW d)) l
/-- Bounds. -/
def okT (n : Nat) (x : T3) : Prop := 0 ≤ x.a ∧ x.a ≤ n ∧ 0 ≤ x.b ∧ x.b ≤ n ∧ 0 ≤ x.c ∧ x.c ≤ n
theorem okT_zero (n : Nat) : okT n zero3 := by simp [okT, zero3]
theorem okT.add {n m : Nat} {x y : T3} (hx : okT n x) (hy : okT m y) : okT (n + m) (add3 x y) := by
  simp only [okT, add3] at *; omega
theorem okT.mono {n m : Nat} {x : T3} (hx : okT n x) (h : n ≤ m) : okT m x := by
  simp only [okT] at *; omega
theorem okT.max {n : Nat} {x y : T3} (hx : okT n x) (hy : okT n y) : okT n (max3 x y) := by
  unfold max3; split
  · exact hy
  · exact hx
theorem sum3_ok {α : Type} {f : α → T3} {n : Nat} : ∀ {l : List α}, (∀ x ∈ l, okT n (f x)) → okT (l.length * n) (sum3 f l) := by
  intro l
  induction l with
  | nil => intro _; exact okT_zero _
  | cons x l ih =>
    intro h
    have := (h x (by simp)).add (ih fun y hy => h y (by simp [hy]))
    rw [List.length_cons, Nat.succ_mul, Nat.add_comm]
    exact this
theorem maxL_ok {α : Type} {f : α → T3} {n : Nat} : ∀ {l : List α}, (∀ x ∈ l, okT n (f x)) → okT n (maxL f l) := by
  intro l
  suffices h : ∀ (l : List α) (t : T3), okT n t → (∀ x ∈ l, okT n (f x)) → okT n (l.foldl (fun t c => max3 t (f c)) t) from fun hx => h l _ (okT_zero _) hx
  intro l
  induction l with
  | nil => intro t ht _; exact ht
  | cons x l ih => intro t ht h; exact ih _ (ht.max (h x (by simp))) fun y hy => h y (by simp [hy])
theorem mem_get {α : Type} {l : List α} {x : α} (h : x ∈ l) : ∃ k : Nat, l[k]? = some x := by
  obtain ⟨k, hk, e⟩ := List.mem_iff_getElem.1 h
  exact ⟨k, by rw [List.getElem?_eq_getElem hk, e]⟩
theorem simW_ok {G : Grp → T3} {Q : Grp → Prop} {s : Sim} {n : Nat} (h : simOK Q s) (hn : 1 ≤ n) (hG : ∀ l, Q l → okT n (G l)) : okT n (simW G s) := by
  unfold simW
  split
  · simp [okT]; omega
  split
  · exact okT_zero n
  split
  · simp [okT]; omega
  split
  · rename_i h14
    rcases h.2.2 with h1 | h1 | h1 | h1 | h1
    · omega
    · omega
    · omega
    · omega
    · exact hG _ h1.2
  · simp [okT]; omega
theorem partsW_ok {G : Grp → T3} {Q : Grp → Prop} {l : List Sim} {n : Nat} (h : partsOK Q l) (hn : 1 ≤ n) (hG : ∀ l, Q l → okT n (G l)) : okT (4 * n) (partsW G l) :=
  (sum3_ok fun s hs => by obtain ⟨k, hk⟩ := mem_get hs; exact simW_ok (h.2.2 k s hk).1 hn hG).mono (Nat.mul_le_mul_right _ h.2.1)
theorem cpxW_ok {G : Grp → T3} {Q : Grp → Prop} {c : Cpx} {n : Nat} (h : cpxOK Q c) (hn : 1 ≤ n) (hG : ∀ l, Q l → okT n (G l)) : okT (16 * n) (cpxW G c) :=
  (sum3_ok (n := 4 * n) fun p hp => by obtain ⟨k, hk⟩ := mem_get hp; exact partsW_ok (h.2.2 k p hk).1 hn hG).mono (by have := Nat.mul_le_mul_right (4 * n) h.2.1; omega)
def wB : Nat → Nat
  | 0 => 1
  | d + 1 => 16 * wB d
theorem wB_pos : ∀ d, 1 ≤ wB d := by
  intro d
  induction d with
  | zero => exact Nat.le_refl _
  | succ d ih => simp only [wB]; omega
theorem grpW_ok : ∀ {d : Nat} {l : Grp}, grpOK d l → okT (wB d) (grpW d l) := by
  intro d
  induction d with
  | zero => intro l h; exact h.elim
  | succ d ih => intro l h; exact maxL_ok fun c hc => cpxW_ok (h.2.2 c hc) (wB_pos d) fun l hl => ih hl
end Go.Proofs.YtoindammaphefaaGreatDoor
