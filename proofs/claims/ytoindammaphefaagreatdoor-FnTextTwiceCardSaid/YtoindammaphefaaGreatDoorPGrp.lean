/- One pseudo-class: the parser reads it as it is written, given that it reads groups of the next depth. -/
import Derived.Test.YtoindammaphefaaGreatDoorPSim
import Derived.Test.YtoindammaphefaaGreatDoorHead
namespace Go.Proofs.YtoindammaphefaaGreatDoor
open Go.RowKit

/-- The parser reads groups of depth d. -/
def GrpC (m : Bool) (d : Nat) : Prop := ∀ (g : Nat) (s : ByteArray) (dep : Int) (i : Nat) (l : Grp) (rest : List UInt8) (w : World), s.size ≤ 140737488351232 → Prs g s dep i w → 0 ≤ dep → dep + d ≤ 1000 → grpOK d l →
  s.data.toList.drop i = grpT m d l ++ rest → (rest = [] ∨ ∃ r, rest = 41 :: r) →
  Calls Tryz.prog 24 #[.pointer (some ⟨g, 0, none⟩)] w (SelEnd (fun w' v => GrpV w' (New w w') d v l) g (i + (grpT m d l).length) w)
theorem GrpV.slice {w : World} {P : Nat → Prop} {d : Nat} {v : Value} {l : Grp} (h : GrpV w P d v l) : ∃ A n c, v = .slice A n c := by
  cases d with
  | zero => exact h.elim
  | succ d => obtain ⟨A, c, hv, _⟩ := h; exact ⟨A, _, c, hv⟩
theorem nth_texts (a b : Int) (l o : Bool) : (a = 0 ∧ b = 1 ∧ nthT a b l o = 58 :: (firstT l ++ childT o)) ∨ (¬ (a = 0 ∧ b = 1) ∧ nthT a b l o = 58 :: (([110, 116, 104, 45] ++ (lastT l ++ childT o)) ++ (40 :: (countT a b ++ [41])))) := by
  unfold nthT
  split
  · rename_i h; exact .inl ⟨h.1, h.2, rfl⟩
  · rename_i h; exact .inr ⟨h, rfl⟩
theorem nth_sim (g : Nat) (s : ByteArray) (i : Nat) (x : Sim) (rest : List UInt8) (w : World) (hs : s.size ≤ 140737488351232) (dep : Int) (hP : Prs g s dep i w) (d : Nat) (T : List UInt8) (hk : x.kind = 11) (ha1 : -9 ≤ x.a) (ha2 : x.a ≤ 9) (hb1 : -9 ≤ x.b) (hb2 : x.b ≤ 9) (hT : T = nthT x.a x.b x.last x.ofType) (hd : s.data.toList.drop i = T ++ rest) (hr : endsSim rest) :
    Calls Tryz.prog 43 #[.pointer (some ⟨g, 0, none⟩)] w (PsSim (fun w' v s => SimV (GrpV w' (New w w') d) v s) x g (i + T.length) w) := by
  have fin : ∀ (l o : Bool) (E : Nat) (e : Ending) (w' : World), l = x.last → o = x.ofType → E = i + T.length → (e = .returned (.tuple #[.iface 129 (.agg #[.int .i64 x.a, .int .i64 x.b, .bool l, .bool o]), .string ByteArray.empty, .nilIface]) ∧ Pos w w' g E) →
      PsSim (fun w' v s => SimV (GrpV w' (New w w') d) v s) x g (i + T.length) w e w' := by
    rintro _ _ _ e w' rfl rfl rfl ⟨he, hp⟩
    exact ⟨_, _, he, simV_nth hk, hp⟩
  rcases nth_texts x.a x.b x.last x.ofType with ⟨h1, h2, ht⟩ | ⟨hn, ht⟩
  · rcases hl : x.last with _ | _ <;> rcases ho : x.ofType with _ | _ <;> rw [hl, ho] at ht
    · exact (parsePseudo_first_child g s i rest w hs hP.c0 hP.c1 (hP.fz 1) (by rw [hd, hT, hl, ho, ht]; rfl) hr.stops).mono fun e w' h => fin false false _ e w' hl.symm ho.symm (by rw [hT, hl, ho, ht] <;> rfl) (by rw [h1, h2]; exact h)
    · exact (parsePseudo_first_of_type g s i rest w hs hP.c0 hP.c1 (hP.fz 1) (by rw [hd, hT, hl, ho, ht]; rfl) hr.stops).mono fun e w' h => fin false true _ e w' hl.symm ho.symm (by rw [hT, hl, ho, ht] <;> rfl) (by rw [h1, h2]; exact h)
    · exact (parsePseudo_last_child g s i rest w hs hP.c0 hP.c1 (hP.fz 1) (by rw [hd, hT, hl, ho, ht]; rfl) hr.stops).mono fun e w' h => fin true false _ e w' hl.symm ho.symm (by rw [hT, hl, ho, ht] <;> rfl) (by rw [h1, h2]; exact h)
    · exact (parsePseudo_last_of_type g s i rest w hs hP.c0 hP.c1 (hP.fz 1) (by rw [hd, hT, hl, ho, ht]; rfl) hr.stops).mono fun e w' h => fin true true _ e w' hl.symm ho.symm (by rw [hT, hl, ho, ht] <;> rfl) (by rw [h1, h2]; exact h)
  · rcases hl : x.last with _ | _ <;> rcases ho : x.ofType with _ | _ <;> rw [hl, ho] at ht
    · exact (parsePseudo_nth_child g s i rest x.a x.b ha1 ha2 hb1 hb2 w hs hP.c0 hP.c1 (hP.fz 1) (by rw [hd, hT, hl, ho, ht]; simp [lastT, childT]) ).mono fun e w' h => fin false false _ e w' hl.symm ho.symm (by rw [hT, hl, ho, ht]; simp [lastT, childT] <;> omega) h
    · exact (parsePseudo_nth_of_type g s i rest x.a x.b ha1 ha2 hb1 hb2 w hs hP.c0 hP.c1 (hP.fz 1) (by rw [hd, hT, hl, ho, ht]; simp [lastT, childT]) ).mono fun e w' h => fin false true _ e w' hl.symm ho.symm (by rw [hT, hl, ho, ht]; simp [lastT, childT] <;> omega) h
    · exact (parsePseudo_nth_last_child g s i rest x.a x.b ha1 ha2 hb1 hb2 w hs hP.c0 hP.c1 (hP.fz 1) (by rw [hd, hT, hl, ho, ht]; simp [lastT, childT]) ).mono fun e w' h => fin true false _ e w' hl.symm ho.symm (by rw [hT, hl, ho, ht]; simp [lastT, childT] <;> omega) h
    · exact (parsePseudo_nth_last_of_type g s i rest x.a x.b ha1 ha2 hb1 hb2 w hs hP.c0 hP.c1 (hP.fz 1) (by rw [hd, hT, hl, ho, ht]; simp [lastT, childT]) ).mono fun e w' h => fin true true _ e w' hl.symm ho.symm (by rw [hT, hl, ho, ht]; simp [lastT, childT] <;> omega) h
theorem rel_sim (m : Bool) (g : Nat) (s : ByteArray) (i : Nat) (x : Sim) (rest : List UInt8) (w : World) (hs : s.size ≤ 140737488351232) (dep : Int) (hP : Prs g s dep i w) (d : Nat) (T : List UInt8) (hC : GrpC m d) (h0 : 0 ≤ dep) (h1 : dep + d ≤ 1000) (hk : x.kind = 14 ∨ x.kind = 15) (hg : grpOK d x.subs) (hT : T = 58 :: (relName x.kind ++ (40 :: (grpT m d x.subs ++ [41])))) (hd : s.data.toList.drop i = T ++ rest) :
    Calls Tryz.prog 43 #[.pointer (some ⟨g, 0, none⟩)] w (PsSim (fun w' v s => SimV (GrpV w' (New w w') d) v s) x g (i + T.length) w) := by
  have hw : noWs (grpT m d x.subs ++ 41 :: rest) := (grpT_hasLead hg).noWs
  have hlt := hP.lt
  have hV : ∀ W W' v j, GrpV W (New w W) d v x.subs → Pos w W g j → Pos W W' g (j + 1) → GrpV W' (New w W') d v x.subs := fun W W' v j hv hp hq =>
    hv.turn (New.more hq) (Alike.pos hq hlt)
  have hN : x.kind = 14 ∨ x.kind = 15 → (relName x.kind).length = 3 := by unfold relName; intro _; split <;> rfl
  have hG : ∀ W, Prs g s dep (i + 1 + 3 + 1) W → Pos w W g (i + 1 + 3 + 1) → Calls Tryz.prog 24 #[.pointer (some ⟨g, 0, none⟩)] W (SelEnd (fun W' v => GrpV W' (New w W') d v x.subs) g (i + 1 + 3 + 1 + (grpT m d x.subs).length) W) := by
    intro W hW hp
    have hd2 : s.data.toList.drop (i + 1 + 3 + 1) = grpT m d x.subs ++ 41 :: rest := by
      have h2 := drop_add (k := i) (a := 58 :: (relName x.kind ++ [40])) (l := grpT m d x.subs ++ 41 :: rest) (by rw [hd, hT]; simp)
      rw [show (58 :: (relName x.kind ++ [40])).length = 5 by simp [hN hk]] at h2
      exact h2
    refine (hC g s dep _ x.subs (41 :: rest) W hs hW h0 h1 hg hd2 (.inr ⟨rest, rfl⟩)).mono fun e W' h => ?_
    obtain ⟨v, he, hv, hpp⟩ := h
    exact ⟨v, he, hv.turn (New.back hp) (Alike.refl _ _), hpp⟩
  have fin : ∀ (nm : List UInt8) (E : Nat) (e : Ending) (w' : World), nm = relName x.kind → E = i + T.length → RelEnd nm (fun W v => GrpV W (New w W) d v x.subs) g E w e w' → PsSim (fun w' v s => SimV (GrpV w' (New w w') d) v s) x g (i + T.length) w e w' := by
    rintro _ _ e w' rfl rfl ⟨v, he, hv, hp⟩
    exact ⟨_, _, he, simV_rel hk hv, hp⟩
  have hlen : i + T.length = i + 1 + 3 + 1 + (grpT m d x.subs).length + 1 := by rw [hT]; simp [hN hk]; omega
  rcases hk with h | h
  · have hr : relName x.kind = [110, 111, 116] := by simp [relName, h]
    exact (parsePseudo_not g s i rest dep (grpT m d x.subs) (fun W v => GrpV W (New w W) d v x.subs) hw w hs hP (by rw [hd, hT, hr]; simp) hV (fun W v hv => hv.slice) hG).mono fun e w' hh => fin _ _ e w' hr.symm hlen.symm hh
  · have hr : relName x.kind = [104, 97, 115] := by simp [relName, h]
    exact (parsePseudo_has g s i rest dep (grpT m d x.subs) (fun W v => GrpV W (New w W) d v x.subs) hw w hs hP (by rw [hd, hT, hr]; simp) hV (fun W v hv => hv.slice) hG).mono fun e w' hh => fin _ _ e w' hr.symm hlen.symm hh
theorem pseudo_sim (m : Bool) (g : Nat) (s : ByteArray) (i : Nat) (x : Sim) (rest : List UInt8) (w : World) (hs : s.size ≤ 140737488351232) (dep : Int) (hP : Prs g s dep i w) (d : Nat) (T : List UInt8) (hC : GrpC m d) (h0 : 0 ≤ dep) (h1 : dep + d ≤ 1000) (hx : simOK (grpOK d) x) (hk1 : 11 ≤ x.kind) (hk2 : x.kind ≤ 15) (hT : T = simT m (grpT m d) x) (hd : s.data.toList.drop i = T ++ rest) (hr : endsSim rest) :
    Calls Tryz.prog 43 #[.pointer (some ⟨g, 0, none⟩)] w (PsSim (fun w' v s => SimV (GrpV w' (New w w') d) v s) x g (i + T.length) w) := by
  rcases hx.2.2 with ⟨hk, hn⟩ | hk | ⟨hk, hn, hv⟩ | ⟨hk, a1, a2, b1, b2⟩ | ⟨hk, hg⟩
  · omega
  · rcases hk with h | h | h
    · omega
    · rw [simT_12 h] at hT
      subst hT
      exact (parsePseudo_empty g s i rest w hs hP.c0 hP.c1 (hP.fz 1) (by rw [hd]; rfl) hr.stops).mono fun e w' hh => ⟨_, _, hh.1, simV_empty h, hh.2⟩
    · rw [simT_13 h] at hT
      subst hT
      exact (parsePseudo_root g s i rest w hs hP.c0 hP.c1 (hP.fz 1) (by rw [hd]; rfl) hr.stops).mono fun e w' hh => ⟨_, _, hh.1, simV_root h, hh.2⟩
  · omega
  · exact nth_sim g s i x rest w hs dep hP d T hk a1 a2 b1 b2 (by rw [hT, simT_11 hk]) hd hr
  · exact rel_sim m g s i x rest w hs dep hP d T hC h0 h1 hk hg (by rw [hT, simT_rel hk]) hd
end Go.Proofs.YtoindammaphefaaGreatDoor
