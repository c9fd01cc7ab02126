/- Plain facts for the walk of parseSimpleSelectorSequence. No program in sight. -/
import Derived.Test.YtoindammaphefaaGreatDoorPGrp
import Derived.Test.YtoindammaphefaaGreatDoorBld
namespace Go.Proofs.YtoindammaphefaaGreatDoor
open Go.RowKit

/-- What may stand behind a sequence of simple selectors. -/
def endsSeq (rest : List UInt8) : Prop := ∀ c, rest.head? = some c → c = 32 ∨ c = 44 ∨ c = 41
theorem endsSeq.sim {rest : List UInt8} (h : endsSeq rest) : endsSim rest := by
  intro c hc
  rcases h c hc with h | h | h
  · exact .inl h
  · exact .inr (.inl h)
  · exact .inr (.inr (.inl h))
section
variable {m : Bool} {G : Grp → List UInt8} {Q : Grp → Prop}
/-- With which byte a simple selector behind the first one begins. -/
theorem simT_lead2 {s : Sim} (h : simOK Q s) (hk : 1 < s.kind) : ∃ c r, simT m G s = c :: r ∧ (c = 35 ∨ c = 46 ∨ c = 91 ∨ c = 58) := by
  rcases simT_lead (m := m) (G := G) h with ⟨h0, _⟩ | ⟨h0, _⟩ | ⟨_, _, e⟩ | ⟨_, _, e⟩ | ⟨_, _, r, e⟩ | ⟨_, _, r, e⟩
  · omega
  · omega
  · exact ⟨35, _, e, by simp⟩
  · exact ⟨46, _, e, by simp⟩
  · exact ⟨91, _, e, by simp⟩
  · exact ⟨58, _, e, by simp⟩
theorem tail_ends {k : List Sim} (h : ∀ t ∈ k, simOK Q t ∧ 1 < t.kind) {rest : List UInt8} (hr : endsSeq rest) : endsSim (k.flatMap (simT m G) ++ rest) := by
  cases k with
  | nil => exact hr.sim
  | cons t k =>
    obtain ⟨c, r, e, hc⟩ := simT_lead2 (m := m) (G := G) (h t (by simp)).1 (h t (by simp)).2
    intro d hd
    rw [List.flatMap_cons, e] at hd
    simp at hd
    subst hd
    rcases hc with h | h | h | h <;> simp [h]
theorem sels_all {k : List Sim} (h : ∀ t ∈ k, simOK Q t ∧ 1 < t.kind) : sels k = k := by
  unfold sels
  rw [List.filter_eq_self]
  intro t ht
  have := (h t ht).2
  simp; omega
/-- What is kept of a list, by what of it is shown. -/
theorem sels_shown {l k : List Sim} {s : Sim} (h : partsOK Q l) (e : shown m l = s :: k) (hk : ∀ t ∈ k, simOK Q t ∧ 1 < t.kind) : sels l = (if s.kind = 1 then [] else [s]) ++ k := by
  obtain ⟨h1, h2, h3⟩ := h
  match l, h1 with
  | [a], _ =>
    simp only [shown, List.cons.injEq] at e
    obtain ⟨rfl, rfl⟩ := e
    by_cases h : a.kind = 1 <;> simp [sels, h]
  | a :: b :: l, _ =>
    have hb : 1 < b.kind := (h3 1 b rfl).2 (by omega)
    simp only [shown] at e
    split at e
    · rename_i hm
      injection e with e1 e2
      subst e1 e2
      have hs := sels_all hk
      have hb1 : ¬ b.kind = 1 := by omega
      unfold sels at hs ⊢
      rw [List.filter_cons_of_neg (by simp [hm.2]), List.filter_cons_of_pos (by simp [hb1]), hs]
      simp [hb1]
    · injection e with e1 e2
      subst e1 e2
      have hs := sels_all hk
      unfold sels at hs ⊢
      by_cases h : a.kind = 1
      · rw [List.filter_cons_of_neg (by simp [h]), hs]; simp [h]
      · rw [List.filter_cons_of_pos (by simp [h]), hs]; simp [h]
theorem drop_cons {α : Type} {l : List α} {n : Nat} {x : α} (h : l[n]? = some x) : l.drop n = x :: l.drop (n + 1) := by
  obtain ⟨hn, e⟩ := List.getElem?_eq_some_iff.1 h
  rw [List.drop_eq_getElem_cons hn, e]
end
theorem infoSel : (Tryz.prog.info? 66).map (fun i => (i.zero, i.size, i.bytes)) = some (some .nilIface, 1, 16) := by kernel_rfl
theorem attrs_sim (m : Bool) (G : Grp → List UInt8) {Q : Grp → Prop} (g : Nat) (s : ByteArray) (i : Nat) (x : Sim) (rest : List UInt8) (w : World) (hs : s.size ≤ 140737488351232)
    (c0 : w.cell? ⟨g, 0, none⟩ = some (.string s)) (c1 : w.cell? ⟨g, 1, none⟩ = some (.int .i64 i)) (f1 : w.frozen? ⟨g, 1, none⟩ = false) (hk : x.kind = 4 ∨ 5 ≤ x.kind ∧ x.kind ≤ 10 ∨ x.kind = 16) (hx : simOK Q x)
    (hd : s.data.toList.drop i = simT m G x ++ rest) :
    Calls Tryz.prog 42 #[.pointer (some ⟨g, 0, none⟩)] w fun e w' => OneSim 108 x g (i + (simT m G x).length) w e w' := by
  obtain ⟨hf, _, h⟩ := hx
  rcases hk with h4 | h5
  · have hn : nameOK x.name.data.toList = true := by
      rcases h with ⟨_, h⟩ | h | ⟨_, h, _⟩ | ⟨h, _⟩ | ⟨h, _⟩
      · exact h
      · omega
      · exact h
      · omega
      · omega
    exact has_sim g s i x rest w hs c0 c1 f1 _ h4 hn (simT_4 h4) hd
  · rcases h with ⟨h, _⟩ | h | ⟨_, hn, hv⟩ | ⟨h, _⟩ | ⟨h, _⟩
    · omega
    · omega
    · exact attr_sim g s i x rest w hs c0 c1 f1 _ h5 hn hv hf (simT_attr h5) hd
    · omega
    · omega
def lenOf : Value → Nat
  | .slice _ n _ => n
  | _ => 0
/-- The end of the sequence: a selector alone, or all of them as a compound. -/
theorem cmpV_one {G : Value → Grp → Prop} {w : World} {P : Nat → Prop} {l : List Sim} {s : Sim} {v : Value} (e : sels l = [s]) (h : SimV G v s) : CmpV G w P v l := .inl ⟨s, e, h⟩
theorem Pos.alloc {w w1 : World} {g j : Nat} (h : Pos w w1 g j) (hg : g < w.heap.size) (o : Obj) : Pos w (w1.alloc o) g j := h.below hg ((Below.refl _ _).alloc (Nat.le_refl _) o)
theorem Pos.grown {w w1 w3 : World} {g j : Nat} {row : Option Nat} (h : Pos w w1 g j) (hg : g < w.heap.size) (hgr : w1.grownBy w3 row) (hr : ∀ k, row = some k → w.heap.size ≤ k) : Pos w w3 g j :=
  ⟨hgr.os.trans h.os, hgr.tape.trans h.tape, hgr.output.trans h.output, Nat.le_trans h.size hgr.size, fun k hk hne => (hgr.block k (Nat.lt_of_lt_of_le hk h.size) (fun e => by have := hr k e.symm; omega)).trans (h.block k hk hne),
    (hgr.block g (Nat.lt_of_lt_of_le hg h.size) (fun e => by have := hr g e.symm; omega)).trans h.own⟩
theorem cell_head {w : World} {a : Addr} {v : Value} (h : w.cell? (a.add (0 * 1 + 0)) = some v) : w.cell? a = some v := by
  have e : a.add (0 * 1 + 0) = a := by simp [Addr.add]
  rwa [e] at h
theorem row_get {α : Type} {R : (Nat → Option Value) → α → Prop} {w : World} {P : Nat → Prop} {v : Value} {l : List α} (h : Row 1 R w P v l) {k : Nat} {x : α} (hx : l[k]? = some x) :
    ∃ a c, v = .slice (some a) l.length c ∧ l.length ≤ c ∧ R (fun j => w.cell? (a.add (k * 1 + j))) x := by
  obtain ⟨A, c, hv, hc, hk⟩ := h
  obtain ⟨ad, rfl, _, hr⟩ := hk k x hx
  exact ⟨ad, c, hv, hc, hr⟩
end Go.Proofs.YtoindammaphefaaGreatDoor
