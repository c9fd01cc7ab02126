/- Selectors as they are written: by the reference (m = false) and by the package (m = true). No program in sight. -/
import Derived.Test.YtoindammaphefaaGreatDoorAst
import Derived.Test.YtoindammaphefaaGreatDoorDec
import Derived.Test.YtoindammaphefaaGreatDoorEsc
namespace Go.Proofs.YtoindammaphefaaGreatDoor
open Go.RowKit

/-- A text that begins with a letter, as items. -/
def plainItems_ (l : List UInt8) : List (Bool × UInt8) := l.map fun c => (false, c)
def nameItems (m : Bool) (l : List UInt8) : List (Bool × UInt8) := if m then escItems l else plainItems_ l
/-- The sign of an attribute selector. -/
def opT (k : Int) : List UInt8 := if k = 5 then [61] else if k = 6 then [126, 61] else if k = 7 then [124, 61] else if k = 8 then [94, 61] else if k = 9 then [36, 61] else if k = 10 then [42, 61] else [33, 61]
def foldT (f : Bool) : List UInt8 := if f then [32, 105] else []
def attrT (s : Sim) : List UInt8 := 91 :: (s.name.data.toList ++ (opT s.kind ++ (34 :: (s.value.data.toList ++ (34 :: (foldT s.fold ++ [93]))))))
/-- child, of-type, last-, first-, nth-. -/
def childT (o : Bool) : List UInt8 := if o then [111, 102, 45, 116, 121, 112, 101] else [99, 104, 105, 108, 100]
def lastT (l : Bool) : List UInt8 := if l then [108, 97, 115, 116, 45] else []
def firstT (l : Bool) : List UInt8 := if l then [108, 97, 115, 116, 45] else [102, 105, 114, 115, 116, 45]
/-- What a pseudo-class is called. -/
def nthName (a b : Int) (l o : Bool) : List UInt8 := if a = 0 ∧ b = 1 then firstT l ++ childT o else [110, 116, 104, 45] ++ (lastT l ++ childT o)
def nthT (a b : Int) (l o : Bool) : List UInt8 := if a = 0 ∧ b = 1 then 58 :: (firstT l ++ childT o) else 58 :: ([110, 116, 104, 45] ++ (lastT l ++ childT o)) ++ (40 :: (countT a b ++ [41]))
def relName (k : Int) : List UInt8 := if k = 14 then [110, 111, 116] else [104, 97, 115]
def simT (m : Bool) (G : Grp → List UInt8) (s : Sim) : List UInt8 :=
  if s.kind = 0 then s.name.data.toList
  else if s.kind = 1 then [42]
  else if s.kind = 2 then 35 :: wrt (nameItems m s.name.data.toList)
  else if s.kind = 3 then 46 :: wrt (nameItems m s.name.data.toList)
  else if s.kind = 4 then 91 :: (s.name.data.toList ++ [93])
  else if s.kind = 11 then nthT s.a s.b s.last s.ofType
  else if s.kind = 12 then [58, 101, 109, 112, 116, 121]
  else if s.kind = 13 then [58, 114, 111, 111, 116]
  else if s.kind = 14 ∨ s.kind = 15 then 58 :: (relName s.kind ++ (40 :: (G s.subs ++ [41])))
  else attrT s
/-- What of a list of simple selectors is written: the package leaves a star away where more stands behind it. -/
def shown (m : Bool) : List Sim → List Sim
  | [] => []
  | [s] => [s]
  | s :: l => if m = true ∧ s.kind = 1 then l else s :: l
def partsT (m : Bool) (G : Grp → List UInt8) (l : List Sim) : List UInt8 := (shown m l).flatMap (simT m G)
def joinT (m : Bool) (j : List UInt8) : List UInt8 := if j = [32] then (if m then [32, 32, 32] else [32]) else 32 :: (j ++ [32])
def cmpT (m : Bool) (G : Grp → List UInt8) (p : Cmp) : List UInt8 := joinT m p.1.data.toList ++ partsT m G p.2
def cpxT (m : Bool) (G : Grp → List UInt8) : Cpx → List UInt8
  | [] => []
  | p :: c => partsT m G p.2 ++ c.flatMap (cmpT m G)
def listT (T : Cpx → List UInt8) : Grp → List UInt8
  | [] => []
  | c :: l => T c ++ l.flatMap fun c => 44 :: 32 :: T c
def grpT (m : Bool) : Nat → Grp → List UInt8
  | 0, _ => []
  | d + 1, l => listT (cpxT m (grpT m d)) l

/-! ### How long they are -/
theorem wrt_plain (l : List UInt8) : wrt (plainItems_ l) = l := by
  induction l with
  | nil => rfl
  | cons c l ih => simp only [plainItems_, List.map_cons, wrt] at ih ⊢; rw [ih]
theorem dec_plain (l : List UInt8) : dec (plainItems_ l) = l := by
  induction l with
  | nil => rfl
  | cons c l ih => simp only [plainItems_, dec, List.map_cons] at ih ⊢; rw [ih]
theorem dec_esc (l : List UInt8) : dec (escItems l) = l := by
  induction l with
  | nil => rfl
  | cons c l ih => simp only [escItems, dec, List.map_cons] at ih ⊢; rw [ih]
theorem dec_name (m : Bool) (l : List UInt8) : dec (nameItems m l) = l := by cases m <;> simp [nameItems, dec_plain, dec_esc]
theorem nameItems_len (m : Bool) (l : List UInt8) : (wrt (nameItems m l)).length ≤ 2 * l.length := by
  cases m
  · simp only [nameItems, Bool.false_eq_true, if_false, wrt_plain]; omega
  · have := wrt_len (escItems l)
    simpa [nameItems, escItems] using this
theorem nameOK_len {l : List UInt8} (h : nameOK l = true) : l.length ≤ 12 := by
  simp [nameOK] at h
  exact h.2.2
theorem nthT_len (a b : Int) (l o : Bool) : (nthT a b l o).length ≤ 60 := by
  have h1 := decI_len a
  have h2 := decI_len b
  unfold nthT
  split
  · cases l <;> cases o <;> decide
  · simp only [List.length_cons, List.length_append, countT]
    split <;> cases l <;> cases o <;> simp [lastT, childT] <;> omega
theorem opT_len (k : Int) : (opT k).length ≤ 2 := by unfold opT; repeat' split <;> try decide
theorem sim_len {m : Bool} {G : Grp → List UInt8} {Q : Grp → Prop} {s : Sim} {n : Nat} (h : simOK Q s) (hG : ∀ l, Q l → (G l).length ≤ n) : (simT m G s).length ≤ n + 70 := by
  obtain ⟨_, _, h⟩ := h
  have hn := nthT_len s.a s.b s.last s.ofType
  have ho := opT_len s.kind
  have hm := nameItems_len m s.name.data.toList
  rcases h with ⟨hk, hnm⟩ | hk | ⟨hk, hnm, hv⟩ | ⟨hk, _⟩ | ⟨hk, hg⟩
  · have hl := nameOK_len hnm
    have hz : s.name.size = s.name.data.toList.length := size_of_data rfl
    rcases hk with h | h | h | h <;> simp [simT, h] <;> omega
  · rcases hk with h | h | h <;> simp [simT, h] <;> omega
  · have hl := nameOK_len hnm
    have hv1 := hv.1
    rw [size_of_data rfl] at hv1
    have hf : (foldT s.fold).length ≤ 2 := by cases s.fold <;> decide
    have e : simT m G s = attrT s := by
      unfold simT
      rw [if_neg (by omega), if_neg (by omega), if_neg (by omega), if_neg (by omega), if_neg (by omega), if_neg (by omega), if_neg (by omega), if_neg (by omega), if_neg (by omega)]
    rw [e]
    simp only [attrT, List.length_cons, List.length_append, List.length_nil]
    omega
  · have e : simT m G s = nthT s.a s.b s.last s.ofType := by simp [simT, hk]
    rw [e]; omega
  · have hs := hG _ hg
    have e : simT m G s = 58 :: (relName s.kind ++ (40 :: (G s.subs ++ [41]))) := by
      unfold simT
      rw [if_neg (by omega), if_neg (by omega), if_neg (by omega), if_neg (by omega), if_neg (by omega), if_neg (by omega), if_neg (by omega), if_neg (by omega), if_pos hk]
    rw [e]
    have hr : (relName s.kind).length ≤ 3 := by unfold relName; split <;> decide
    simp only [List.length_cons, List.length_append, List.length_nil]
    omega
theorem flat_le {α β : Type} (f : α → List β) (n : Nat) : ∀ l : List α, (∀ a ∈ l, (f a).length ≤ n) → (l.flatMap f).length ≤ l.length * n := by
  intro l
  induction l with
  | nil => intro _; simp
  | cons a l ih =>
    intro h
    have h1 := h a (by simp)
    have h2 := ih fun b hb => h b (by simp [hb])
    rw [List.flatMap_cons, List.length_append, List.length_cons, Nat.succ_mul]
    omega
theorem shown_mem {m : Bool} {l : List Sim} {s : Sim} (h : s ∈ shown m l) : s ∈ l := by
  match l with
  | [] => exact h
  | [a] => exact h
  | a :: b :: l =>
    simp only [shown] at h
    split at h
    · exact List.mem_cons_of_mem _ h
    · exact h
theorem shown_len (m : Bool) (l : List Sim) : (shown m l).length ≤ l.length := by
  match l with
  | [] => exact Nat.le_refl _
  | [a] => exact Nat.le_refl _
  | a :: b :: l =>
    simp only [shown]
    split <;> simp
theorem parts_len {m : Bool} {G : Grp → List UInt8} {Q : Grp → Prop} {l : List Sim} {n : Nat} (h : partsOK Q l) (hG : ∀ l, Q l → (G l).length ≤ n) : (partsT m G l).length ≤ 4 * (n + 70) := by
  obtain ⟨_, h2, h3⟩ := h
  refine Nat.le_trans (flat_le _ (n + 70) _ fun s hs => ?_) (Nat.mul_le_mul_right _ (Nat.le_trans (shown_len m l) h2))
  obtain ⟨k, hk, e⟩ := List.mem_iff_getElem.1 (shown_mem hs)
  exact sim_len (h3 k s (by rw [List.getElem?_eq_getElem hk, e])).1 hG
theorem cpx_len {m : Bool} {G : Grp → List UInt8} {Q : Grp → Prop} {c : Cpx} {n : Nat} (h : cpxOK Q c) (hG : ∀ l, Q l → (G l).length ≤ n) : (cpxT m G c).length ≤ 16 * (n + 80) := by
  obtain ⟨h1, h2, h3⟩ := h
  match c, h1 with
  | p :: c, _ =>
    have hp := parts_len (m := m) (h3 0 p rfl).1 hG
    have hc := flat_le (cmpT m G) (4 * (n + 70) + 3) c fun q hq => by
      obtain ⟨k, hk, e⟩ := List.mem_iff_getElem.1 hq
      obtain ⟨hq1, hq2⟩ := h3 (k + 1) q (by rw [List.getElem?_cons_succ, List.getElem?_eq_getElem hk, e])
      have hl := parts_len (m := m) hq1 hG
      have hj : (joinT m q.1.data.toList).length ≤ 3 := by
        rcases hq2 (by omega) with h | h | h | h <;> rw [h] <;> cases m <;> decide
      rw [cmpT, List.length_append]
      omega
    have hl : c.length ≤ 3 := by simpa using h2
    have := Nat.mul_le_mul_right (4 * (n + 70) + 3) hl
    rw [cpxT, List.length_append]
    omega
theorem list_len {T : Cpx → List UInt8} {Q : Cpx → Prop} {l : Grp} {n : Nat} (h : l.length ≤ 3) (hQ : ∀ c ∈ l, Q c) (hT : ∀ c, Q c → (T c).length ≤ n) : (listT T l).length ≤ 3 * (n + 2) := by
  match l with
  | [] => simp [listT]
  | c :: l =>
    have h1 := hT c (hQ c (by simp))
    have h2 := flat_le (fun c => 44 :: 32 :: T c) (n + 2) l fun a ha => by
      have := hT a (hQ a (by simp [ha]))
      simp only [List.length_cons]; omega
    have hl : l.length ≤ 2 := by simpa using h
    have := Nat.mul_le_mul_right (n + 2) hl
    rw [listT, List.length_append]
    omega
def lenG : Nat → Nat
  | 0 => 0
  | d + 1 => 3 * (16 * (lenG d + 80) + 2)
theorem grp_len (m : Bool) : ∀ {d : Nat} {l : Grp}, grpOK d l → (grpT m d l).length ≤ lenG d := by
  intro d
  induction d with
  | zero => intro l h; exact h.elim
  | succ d ih =>
    intro l h
    exact list_len h.2.1 h.2.2 fun c hc => cpx_len hc fun l hl => ih hl
end Go.Proofs.YtoindammaphefaaGreatDoor
