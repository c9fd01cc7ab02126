/- A scope in which the run jumps at most n times, to whatever labels: a law for the walk, after the library's own laws on scopes. No program in sight. -/
import Derived.ScopeJumps
import Derived.WalkKit
namespace Go.Proofs.YtoindammaphefaaGreatDoor
open Go

/-- As Q; by a goto, with n jumps left: on from that label, with n - 1 left. -/
def jumpsQ (P : Program) (c : Code) (Q : Exit → Act → World → Prop) : Nat → Exit → Act → World → Prop
  | 0, .goto _, _, _ => False
  | n + 1, .goto l, a, w => ∃ rest, findLabel c l = some rest ∧ rest.wp P (jumpsQ P c Q n) a w
  | _, e, a, w => Q e a w

section
variable {P : Program} {c : Code} {Q : Exit → Act → World → Prop}
theorem jumpsQ_ret {n : Nat} {a : Act} {w : World} (h : Q .ret a w) : jumpsQ P c Q n .ret a w := by cases n <;> exact h
theorem jumpsQ_panic {n : Nat} {ch : List PanicEntry} {a : Act} {w : World} (h : Q (.panic ch) a w) : jumpsQ P c Q n (.panic ch) a w := by cases n <;> exact h
theorem jumpsQ_goto {n : Nat} {l : Nat} {rest : Code} {a : Act} {w : World} (hf : findLabel c l = some rest) (h : rest.wp P (jumpsQ P c Q n) a w) : jumpsQ P c Q (n + 1) (.goto l) a w := ⟨rest, hf, h⟩

theorem jumps_key {b : Frame} {k : List Item} {cs : List Frame} : ∀ (n : Nat) (e : Exit) (a : Act) (w : World) (m : Machine), jumpsQ P c Q n e a w → Arrives P m b (.inScope c :: k) cs e a w →
    ∃ e' a' w', Q e' a' w' ∧ Arrives P m b k cs e' a' w' := by
  intro n
  induction n with
  | zero =>
    intro e a w m hq harr
    cases e with
    | normal => exact ⟨.normal, a, w, hq, Steps.trans harr (.one step_inScope)⟩
    | exit id => exact ⟨.exit id, a, w, hq, fun k' hk => harr k' (by simp [exitTo, hk])⟩
    | goto l => exact hq.elim
    | ret => exact ⟨_, a, w, hq, harr⟩
    | panic ch => exact ⟨_, a, w, hq, harr⟩
    | outgrown => exact ⟨_, a, w, hq, harr⟩
  | succ n ih =>
    intro e a w m hq harr
    cases e with
    | normal => exact ⟨.normal, a, w, hq, Steps.trans harr (.one step_inScope)⟩
    | exit id => exact ⟨.exit id, a, w, hq, fun k' hk => harr k' (by simp [exitTo, hk])⟩
    | goto l =>
      obtain ⟨rest, hf, hwp⟩ := hq
      have hg : gotoIn l (.inScope c :: k) = some (.code rest :: .inScope c :: k) := by simp [gotoIn, hf]
      obtain ⟨e1, a1, w1, hq1, harr1⟩ := hwp b (.inScope c :: k) cs
      exact ih e1 a1 w1 m hq1 (.of_steps (harr _ hg) harr1)
    | ret => exact ⟨_, a, w, hq, harr⟩
    | panic ch => exact ⟨_, a, w, hq, harr⟩
    | outgrown => exact ⟨_, a, w, hq, harr⟩

theorem wp_scope_n (n : Nat) {a : Act} {w : World} (h : c.wp P (jumpsQ P c Q n) a w) : (Code.scope c).wp P Q a w := by
  intro b k cs
  obtain ⟨e, a1, w1, hq, harr⟩ := h b (.inScope c :: k) cs
  obtain ⟨e2, a2, w2, hq2, harr2⟩ := jumps_key n e a1 w1 _ hq harr
  exact ⟨e2, a2, w2, hq2, .of_steps (.one step_scope) harr2⟩
end
end Go.Proofs.YtoindammaphefaaGreatDoor
