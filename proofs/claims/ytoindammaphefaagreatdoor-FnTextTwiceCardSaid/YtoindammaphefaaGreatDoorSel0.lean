/- Plain facts for the walk of parseSelector. No program in sight. -/
import Derived.Test.YtoindammaphefaaGreatDoorSeq0
namespace Go.Proofs.YtoindammaphefaaGreatDoor
open Go.RowKit

/-- What may stand behind a selector. -/
def endsCpx (rest : List UInt8) : Prop := ∀ c, rest.head? = some c → c = 44 ∨ c = 41
theorem endsCpx.noWs {rest : List UInt8} (h : endsCpx rest) : noWs rest := by
  intro c hc
  rcases h c hc with rfl | rfl <;> decide
section
variable {m : Bool} {G : Grp → List UInt8} {Q : Grp → Prop}
theorem joinT_blank {m : Bool} : ∃ n, joinT m [32] = List.replicate n 32 ∧ 0 < n := by
  cases m
  · exact ⟨1, rfl, by decide⟩
  · exact ⟨3, rfl, by decide⟩
theorem joinT_head {j : ByteArray} (h : joinOK j) : ∃ r, joinT m j.data.toList = 32 :: r := by
  rcases h with h | h | h | h <;> rw [h] <;> cases m <;> exact ⟨_, rfl⟩
theorem cmp_tail {c : Cpx} (h : ∀ p ∈ c, joinOK p.1) {rest : List UInt8} (hr : endsCpx rest) : endsSeq (c.flatMap (cmpT m G) ++ rest) := by
  intro d hd
  cases c with
  | nil => rcases hr d hd with h | h <;> simp [h]
  | cons p c =>
    obtain ⟨r, e⟩ := joinT_head (m := m) (h p (by simp))
    rw [List.flatMap_cons, cmpT, e] at hd
    simp at hd
    exact .inl hd.symm
theorem SimV.iface {E : Value → Grp → Prop} {v : Value} {s : Sim} (h : SimV E v s) (hs : simOK Q s) (hk : s.kind ≠ 1) : ∃ T x, v = .iface T x := by
  rcases hs.2.2 with ⟨h1, _⟩ | h1 | ⟨h1, _⟩ | ⟨h1, _⟩ | ⟨h1, _⟩
  · rcases h1 with h1 | h1 | h1 | h1
    · exact ⟨_, _, h.tag h1⟩
    · exact ⟨_, _, h.id h1⟩
    · exact ⟨_, _, h.cls h1⟩
    · exact ⟨_, _, h.has h1⟩
  · rcases h1 with h1 | h1 | h1
    · exact absurd h1 hk
    · exact ⟨_, _, h.empty h1⟩
    · exact ⟨_, _, h.root h1⟩
  · exact ⟨_, _, h.attr h1⟩
  · exact ⟨_, _, h.nth h1⟩
  · obtain ⟨x, h2, _⟩ := h.rel h1
    exact ⟨_, _, h2⟩
theorem sels_mem {l : List Sim} {s : Sim} (h : s ∈ sels l) : s ∈ l ∧ s.kind ≠ 1 := by
  unfold sels at h
  rw [List.mem_filter] at h
  exact ⟨h.1, by simpa using h.2⟩
theorem CmpV.iface {E : Value → Grp → Prop} {w : World} {P : Nat → Prop} {v : Value} {l : List Sim} (h : CmpV E w P v l) (hl : partsOK Q l) : ∃ T x, v = .iface T x := by
  rcases h with ⟨s, h1, h2⟩ | ⟨_, x, h2, _⟩
  · obtain ⟨h3, h4⟩ := sels_mem (l := l) (s := s) (by rw [h1]; simp)
    obtain ⟨k, hk⟩ := List.mem_iff_getElem?.1 h3
    exact h2.iface (hl.2.2 k s hk).1 h4
  · exact ⟨_, _, h2⟩
end
/-- The position that the parser at block g has in a world. -/
def posIn (g : Nat) (w : World) : Nat := (intOf ((w.cell? ⟨g, 1, none⟩).getD undef)).toNat
theorem Prs.posIn {g : Nat} {s : ByteArray} {dep : Int} {i : Nat} {w : World} (h : Prs g s dep i w) : posIn g w = i := by
  unfold Go.Proofs.YtoindammaphefaaGreatDoor.posIn
  rw [h.c1]
  simp [intOf]
theorem cpxV_turn {d : Nat} {w w1 w2 : World} {v : Value} {c : Cpx} (h : CpxV (CmpV (GrpV w1 (New w w1) d) w1 (New w w1)) v c) (hs : w1.heap.size ≤ w2.heap.size) (ha : Alike (New w w1) w1 w2) : CpxV (CmpV (GrpV w2 (New w w2) d) w2 (New w w2)) v c :=
  turns_cpx d w1 w2 (New w w1) (New w w2) v c h (fun _ hb => ⟨hb.1, Nat.lt_of_lt_of_le hb.2 hs⟩) ha
theorem cmpV_back {d : Nat} {w w1 w2 : World} {v : Value} {l : List Sim} (h : CmpV (GrpV w2 (New w1 w2) d) w2 (New w1 w2) v l) (hs : w.heap.size ≤ w1.heap.size) : CmpV (GrpV w2 (New w w2) d) w2 (New w w2) v l :=
  h.turn (fun _ hb => ⟨Nat.le_trans hs hb.1, hb.2⟩) (Alike.refl _ _) fun _ _ h => h.turn (fun _ hb => ⟨Nat.le_trans hs hb.1, hb.2⟩) (Alike.refl _ _)
/-- The parser reads sequences, selectors of depth d. -/
def SeqC (m : Bool) (d : Nat) : Prop := ∀ (g : Nat) (s : ByteArray) (dep : Int) (i : Nat) (l : List Sim) (rest : List UInt8) (w : World), s.size ≤ 140737488351232 → Prs g s dep i w → 0 ≤ dep → dep + d ≤ 1000 → partsOK (grpOK d) l →
  s.data.toList.drop i = partsT m (grpT m d) l ++ rest → endsSeq rest →
  Calls Tryz.prog 34 #[.pointer (some ⟨g, 0, none⟩)] w (SelEnd (fun w' v => CmpV (GrpV w' (New w w') d) w' (New w w') v l) g (i + (partsT m (grpT m d) l).length) w)
def SelC (m : Bool) (d : Nat) : Prop := ∀ (g : Nat) (s : ByteArray) (dep : Int) (i n : Nat) (c : Cpx) (rest : List UInt8) (w : World), s.size ≤ 140737488351232 → Prs g s dep i w → 0 ≤ dep → dep + d ≤ 1000 → cpxOK (grpOK d) c →
  s.data.toList.drop i = List.replicate n 32 ++ (cpxT m (grpT m d) c ++ rest) → endsCpx rest →
  Calls Tryz.prog 29 #[.pointer (some ⟨g, 0, none⟩)] w (SelEnd (fun w' v => CpxV (CmpV (GrpV w' (New w w') d) w' (New w w')) v c) g (i + n + (cpxT m (grpT m d) c).length) w)
end Go.Proofs.YtoindammaphefaaGreatDoor
