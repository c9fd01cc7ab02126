/- With which byte the text of a selector begins. No program in sight. -/
import Derived.Test.YtoindammaphefaaGreatDoorNms
namespace Go.Proofs.YtoindammaphefaaGreatDoor
open Go.RowKit

def leadB (c : UInt8) : Prop := c = 35 ∨ c = 42 ∨ c = 46 ∨ c = 58 ∨ c = 91 ∨ 97 ≤ (c.toNat : Int) ∧ (c.toNat : Int) ≤ 122
instance (c : UInt8) : Decidable (leadB c) := by unfold leadB; infer_instance
/-- c stands at the front of l. -/
def hasLead (l : List UInt8) : Prop := ∃ c r, l = c :: r ∧ leadB c
theorem leadB.ne {c : UInt8} (h : leadB c) (d : UInt8) (hd : d = 32 ∨ d = 9 ∨ d = 13 ∨ d = 10 ∨ d = 12 ∨ d = 47 ∨ d = 44 ∨ d = 41 ∨ d = 43 ∨ d = 62 ∨ d = 126) : ¬ c = d := by
  rintro rfl
  revert h
  rcases hd with h | h | h | h | h | h | h | h | h | h | h <;> subst h <;> decide
theorem leadB.noWs {c : UInt8} {l : List UInt8} (h : leadB c) : noWs (c :: l) := by
  intro d hd; simp at hd; subst hd
  exact ⟨h.ne _ (by simp), h.ne _ (by simp), h.ne _ (by simp), h.ne _ (by simp), h.ne _ (by simp), h.ne _ (by simp)⟩
theorem hasLead.noWs {l rest : List UInt8} (h : hasLead l) : noWs (l ++ rest) := by
  obtain ⟨c, r, rfl, h⟩ := h
  exact h.noWs
theorem hasLead.append {l r : List UInt8} (h : hasLead l) : hasLead (l ++ r) := by
  obtain ⟨c, k, rfl, h⟩ := h
  exact ⟨c, _, rfl, h⟩
theorem nameOK_head {l : List UInt8} (h : nameOK l = true) : ∃ c r, l = c :: r ∧ 97 ≤ (c.toNat : Int) ∧ (c.toNat : Int) ≤ 122 := by
  obtain ⟨h1, h2⟩ := nameOK_good h
  cases l with
  | nil => exact absurd rfl h2
  | cons c r =>
    simp only [goodFrom, Bool.and_eq_true] at h1
    have := h1.1
    simp [okAt] at this
    exact ⟨c, r, rfl, by omega, by omega⟩
section
variable {m : Bool} {G : Grp → List UInt8} {Q : Grp → Prop}
theorem simT_attr {s : Sim} (h : 5 ≤ s.kind ∧ s.kind ≤ 10 ∨ s.kind = 16) : simT m G s = attrT s := by
  unfold simT
  rw [if_neg (by omega), if_neg (by omega), if_neg (by omega), if_neg (by omega), if_neg (by omega), if_neg (by omega), if_neg (by omega), if_neg (by omega), if_neg (by omega)]
theorem simT_rel {s : Sim} (h : s.kind = 14 ∨ s.kind = 15) : simT m G s = 58 :: (relName s.kind ++ (40 :: (G s.subs ++ [41]))) := by
  unfold simT
  rw [if_neg (by omega), if_neg (by omega), if_neg (by omega), if_neg (by omega), if_neg (by omega), if_neg (by omega), if_neg (by omega), if_neg (by omega), if_pos h]
theorem simT_0 {s : Sim} (h : s.kind = 0) : simT m G s = s.name.data.toList := by simp [simT, h]
theorem simT_1 {s : Sim} (h : s.kind = 1) : simT m G s = [42] := by simp [simT, h]
theorem simT_2 {s : Sim} (h : s.kind = 2) : simT m G s = 35 :: wrt (nameItems m s.name.data.toList) := by simp [simT, h]
theorem simT_3 {s : Sim} (h : s.kind = 3) : simT m G s = 46 :: wrt (nameItems m s.name.data.toList) := by simp [simT, h]
theorem simT_4 {s : Sim} (h : s.kind = 4) : simT m G s = 91 :: (s.name.data.toList ++ [93]) := by simp [simT, h]
theorem simT_11 {s : Sim} (h : s.kind = 11) : simT m G s = nthT s.a s.b s.last s.ofType := by simp [simT, h]
theorem simT_12 {s : Sim} (h : s.kind = 12) : simT m G s = [58, 101, 109, 112, 116, 121] := by simp [simT, h]
theorem simT_13 {s : Sim} (h : s.kind = 13) : simT m G s = [58, 114, 111, 111, 116] := by simp [simT, h]
theorem nthT_head (a b : Int) (l o : Bool) : ∃ r, nthT a b l o = 58 :: r := by unfold nthT; split <;> exact ⟨_, rfl⟩
/-- What the kind of a simple selector says of its first byte. -/
theorem simT_lead {s : Sim} (h : simOK Q s) : (s.kind = 0 ∧ nameOK s.name.data.toList = true ∧ ∃ c r, simT m G s = c :: r ∧ 97 ≤ (c.toNat : Int) ∧ (c.toNat : Int) ≤ 122) ∨ (s.kind = 1 ∧ simT m G s = [42])
    ∨ (s.kind = 2 ∧ nameOK s.name.data.toList = true ∧ simT m G s = 35 :: wrt (nameItems m s.name.data.toList)) ∨ (s.kind = 3 ∧ nameOK s.name.data.toList = true ∧ simT m G s = 46 :: wrt (nameItems m s.name.data.toList))
    ∨ ((s.kind = 4 ∨ 5 ≤ s.kind ∧ s.kind ≤ 10 ∨ s.kind = 16) ∧ nameOK s.name.data.toList = true ∧ ∃ r, simT m G s = 91 :: r) ∨ (11 ≤ s.kind ∧ s.kind ≤ 15 ∧ ∃ r, simT m G s = 58 :: r) := by
  rcases h.2.2 with ⟨hk, hn⟩ | hk | ⟨hk, hn, hv⟩ | ⟨hk, _⟩ | ⟨hk, hg⟩
  · rcases hk with h | h | h | h
    · left
      obtain ⟨c, r, e, h1, h2⟩ := nameOK_head hn
      exact ⟨h, hn, c, r, by rw [simT_0 h, e], h1, h2⟩
    · right; right; left; exact ⟨h, hn, simT_2 h⟩
    · right; right; right; left; exact ⟨h, hn, simT_3 h⟩
    · right; right; right; right; left; exact ⟨.inl h, hn, _, simT_4 h⟩
  · rcases hk with h | h | h
    · right; left; exact ⟨h, simT_1 h⟩
    · right; right; right; right; right; exact ⟨by omega, by omega, _, simT_12 h⟩
    · right; right; right; right; right; exact ⟨by omega, by omega, _, simT_13 h⟩
  · right; right; right; right; left; exact ⟨.inr hk, hn, _, simT_attr hk⟩
  · right; right; right; right; right
    obtain ⟨r, e⟩ := nthT_head s.a s.b s.last s.ofType
    exact ⟨by omega, by omega, r, by rw [simT_11 hk, e]⟩
  · right; right; right; right; right; exact ⟨by omega, by omega, _, simT_rel hk⟩
theorem simT_hasLead {s : Sim} (h : simOK Q s) : hasLead (simT m G s) := by
  rcases simT_lead (m := m) (G := G) h with ⟨_, _, c, r, e, h1⟩ | ⟨_, e⟩ | ⟨_, _, e⟩ | ⟨_, _, e⟩ | ⟨_, _, r, e⟩ | ⟨_, _, r, e⟩
  · exact ⟨c, r, e, by unfold leadB; omega⟩
  · exact ⟨42, [], e, by decide⟩
  · exact ⟨35, _, e, by decide⟩
  · exact ⟨46, _, e, by decide⟩
  · exact ⟨91, _, e, by decide⟩
  · exact ⟨58, _, e, by decide⟩
theorem shown_get {l : List Sim} (h : partsOK Q l) : ∃ s k, shown m l = s :: k ∧ simOK Q s ∧ (∀ t ∈ k, simOK Q t ∧ 1 < t.kind) ∧ (s.kind = 1 → k = [] ∨ m = false) := by
  obtain ⟨h1, h2, h3⟩ := h
  match l, h1 with
  | [s], _ => exact ⟨s, [], rfl, (h3 0 s rfl).1, fun t ht => (by cases ht), fun _ => .inl rfl⟩
  | s :: t :: l, _ =>
    have hall : ∀ u ∈ t :: l, simOK Q u ∧ 1 < u.kind := fun u hu => by
      obtain ⟨k, hk, e⟩ := List.mem_iff_getElem.1 hu
      have := h3 (k + 1) u (by rw [List.getElem?_cons_succ, List.getElem?_eq_getElem hk, e])
      exact ⟨this.1, this.2 (by omega)⟩
    simp only [shown]
    split
    · exact ⟨t, l, rfl, (hall t (by simp)).1, fun u hu => hall u (by simp [hu]), fun e => by have := (hall t (by simp)).2; omega⟩
    · rename_i hn
      refine ⟨s, t :: l, rfl, (h3 0 s rfl).1, hall, fun e => .inr ?_⟩
      cases m
      · rfl
      · exact absurd ⟨rfl, e⟩ hn
theorem partsT_hasLead {l : List Sim} (h : partsOK Q l) : hasLead (partsT m G l) := by
  obtain ⟨s, k, e, hs, _⟩ := shown_get (m := m) h
  unfold partsT
  rw [e, List.flatMap_cons]
  exact (simT_hasLead hs).append
theorem cpxT_hasLead {c : Cpx} (h : cpxOK Q c) : hasLead (cpxT m G c) := by
  obtain ⟨h1, h2, h3⟩ := h
  match c, h1 with
  | p :: c, _ => exact (partsT_hasLead (h3 0 p rfl).1).append
end
theorem grpT_hasLead {m : Bool} {d : Nat} {l : Grp} (h : grpOK d l) : hasLead (grpT m d l) := by
  match d, h with
  | d + 1, ⟨h1, h2, h3⟩ =>
    match l, h1 with
    | c :: l, _ => exact (cpxT_hasLead (h3 c (by simp))).append
end Go.Proofs.YtoindammaphefaaGreatDoor
