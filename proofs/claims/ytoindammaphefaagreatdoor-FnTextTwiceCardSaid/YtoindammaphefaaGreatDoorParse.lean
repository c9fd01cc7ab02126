/- The parser reads what the reference (m = false) and the package itself (m = true) write: groups of every depth; ParseGroup and ParseGroupWithPseudoElements. -/
import Derived.Test.YtoindammaphefaaGreatDoorSel0
import Derived.Defers
import Derived.Test.YtoindammaphefaaGreatDoorSel
import Derived.Test.YtoindammaphefaaGreatDoorSeq
/- Plain facts for the walk of parseSelectorGroup, and its deferred call. -/
namespace Go.Proofs.YtoindammaphefaaGreatDoor
open Go.RowKit

theorem setCell_comm2 (w : World) (g i j : Nat) (hij : i ≠ j) (u v : Value) : (w.setCell ⟨g, i, none⟩ u).setCell ⟨g, j, none⟩ v = (w.setCell ⟨g, j, none⟩ v).setCell ⟨g, i, none⟩ u := by
  cases w with
  | mk heap tape drawn os output =>
    simp only [World.setCell]
    congr 1
    apply Array.ext_getElem?
    intro k
    simp only [Array.getElem?_modify]
    by_cases hk : g = k
    · subst hk
      simp only [if_true]
      cases hb : heap[g]? with
      | none => rfl
      | some o =>
        cases o <;> simp only [Option.map_some]
        rename_i c e f
        simp only [Option.isSome_none, Bool.false_eq_true, if_false]
        congr 2
        apply Array.ext_getElem?
        intro n
        simp only [Array.getElem?_setIfInBounds, Array.size_setIfInBounds]
        by_cases h1 : i = n
        · by_cases h2 : j = n
          · omega
          · simp [h1, h2]
        · by_cases h2 : j = n <;> simp [h1, h2]
    · simp [hk]
/-- The world in which the parser's depth is x, and its address lies in a box. -/
def deeper (w : World) (g : Nat) (x : Int) : World := (w.setCell ⟨g, 2, none⟩ (.int .i64 x)).alloc (.cells #[.pointer (some ⟨g, 0, none⟩)] 71)
theorem deeper_size (w : World) (g : Nat) (x : Int) : (deeper w g x).heap.size = w.heap.size + 1 := by simp [deeper, World.setCell]
theorem deeper_old {w : World} {g : Nat} {x : Int} {k : Nat} (hk : k < w.heap.size) : (deeper w g x).heap[k]? = (w.setCell ⟨g, 2, none⟩ (.int .i64 x)).heap[k]? := heap_alloc_old _ _ (by rw [setCell_size]; exact hk)
theorem Prs.deeper {g : Nat} {s : ByteArray} {dep : Int} {i : Nat} {w : World} (h : Prs g s dep i w) (x : Int) : Prs g s x i (deeper w g x) := by
  have hg := h.lt
  have hc : ∀ o, (Go.Proofs.YtoindammaphefaaGreatDoor.deeper w g x).cell? ⟨g, o, none⟩ = (w.setCell ⟨g, 2, none⟩ (.int .i64 x)).cell? ⟨g, o, none⟩ := fun o => cell_of_heap (deeper_old hg)
  refine ⟨?_, ?_, ?_, fun o => ?_⟩
  · rw [hc, World.cell?_setCell_other w ⟨g, 2, none⟩ ⟨g, 0, none⟩ _ (by intro e; injection e with _ e; cases e)]; exact h.c0
  · rw [hc, World.cell?_setCell_other w ⟨g, 2, none⟩ ⟨g, 1, none⟩ _ (by intro e; injection e with _ e; cases e)]; exact h.c1
  · rw [hc]; exact World.cell?_setCell_same w ⟨g, 2, none⟩ _ h.c2
  · rw [World.frozen?_of_block (w := w.setCell ⟨g, 2, none⟩ (.int .i64 x)) (a := ⟨g, o, none⟩) (deeper_old hg), World.frozen?_setCell]
    exact h.fz o
/-- Behind the deferred call the parser's depth is as it was. -/
theorem Pos.shallower {w wr : World} {g q : Nat} {s : ByteArray} {dep x : Int} {i : Nat} (h : Prs g s dep i w) (hp : Pos (deeper w g x) wr g q) : Pos w (wr.setCell ⟨g, 2, none⟩ (.int .i64 dep)) g q := by
  have hg := h.lt
  refine ⟨hp.os, hp.tape, hp.output, by rw [setCell_size]; have := hp.size; rw [deeper_size] at this; omega, fun k hk hne => ?_, ?_⟩
  · rw [Below.heap_setCell wr ⟨g, 2, none⟩ _ k hne, hp.block k (by rw [deeper_size]; omega) hne, deeper_old hk, Below.heap_setCell w ⟨g, 2, none⟩ _ k hne]
  · have h1 := hp.own
    have h2 : ∀ (W W' : World) (v : Value), W'.heap[g]? = W.heap[g]? → (W'.setCell ⟨g, 2, none⟩ v).heap[g]? = (W.setCell ⟨g, 2, none⟩ v).heap[g]? := fun W W' v e => by simp only [World.setCell, Array.getElem?_modify, e]
    rw [h2 _ _ _ h1]
    have h3 : ((deeper w g x).setCell ⟨g, 1, none⟩ (.int .i64 q)).heap[g]? = ((w.setCell ⟨g, 2, none⟩ (.int .i64 x)).setCell ⟨g, 1, none⟩ (.int .i64 q)).heap[g]? := setCell_own (deeper_old hg)
    rw [h2 _ _ _ h3, setCell_comm2 w g 2 1 (by decide), setCell_twice]
    rw [setCell_self (w := w.setCell ⟨g, 1, none⟩ (.int .i64 q)) (a := ⟨g, 2, none⟩)]
    rw [World.cell?_setCell_other w ⟨g, 1, none⟩ ⟨g, 2, none⟩ _ (by intro e; injection e with _ e; cases e)]
    exact h.c2
theorem deeper_box {w wr : World} {g q : Nat} {x : Int} (hg : g < w.heap.size) (hp : Pos (deeper w g x) wr g q) : wr.cell? ⟨w.heap.size, 0, none⟩ = some (.pointer (some ⟨g, 0, none⟩)) := by
  have h1 := hp.block w.heap.size (by rw [deeper_size]; omega) (by omega)
  rw [World.cell?_of_block (w := deeper w g x) (a := ⟨w.heap.size, 0, none⟩) h1]
  have h2 := heap_alloc_new (w.setCell ⟨g, 2, none⟩ (.int .i64 x)) (.cells #[.pointer (some ⟨g, 0, none⟩)] 71)
  rw [setCell_size] at h2
  rw [show (deeper w g x) = (w.setCell ⟨g, 2, none⟩ (.int .i64 x)).alloc (.cells #[.pointer (some ⟨g, 0, none⟩)] 71) from rfl, cell_of_row _ _ _ _ _ _ h2]
  rfl
theorem Bld.one {α : Type} {R : World → (Nat → Prop) → Value → α → Prop} {e : TypeId} {w wr : World} {x : Value} {a : α} (hT : Turns R) (hx : R wr (New w wr) x a) (hs : w.heap.size ≤ wr.heap.size) :
    Bld R e w (wr.alloc (.cells #[x] e)) (.slice (some ⟨wr.heap.size, 0, none⟩) 1 1) [a] := by
  refine ⟨[(x, a)], rfl, ⟨by simp, .inr ⟨wr.heap.size, 1, #[x], rfl, hs, heap_alloc_new wr _, Nat.le_refl _, by decide, rfl, by simp⟩⟩, fun q hq => ?_⟩
  simp at hq
  subst hq
  refine hT _ _ _ _ _ _ hx (fun b hb => ⟨⟨hb.1, by simp; have := hb.2; omega⟩, fun e => ?_⟩) fun b hb => heap_alloc_old _ _ hb.2
  simp [Value.ownBlock] at e
  have := hb.2
  omega

theorem CpxV.iface {Q : Grp → Prop} {E : Value → Grp → Prop} {w : World} {P : Nat → Prop} {v : Value} {c : Cpx} (h : CpxV (CmpV E w P) v c) (hc : cpxOK Q c) : ∃ T x, v = .iface T x := by
  cases h with
  | one h => exact h.iface (hc.2.2 0 _ rfl).1
  | more _ _ => exact ⟨_, _, rfl⟩
theorem deferred_any (g : Nat) (b : Addr) (x : Int) (u : FrameMode) (w : World) (hb : w.cell? b = some (.pointer (some ⟨g, 0, none⟩))) (h2 : w.cell? ⟨g, 2, none⟩ = some (.int .i64 x)) (hf : w.frozen? ⟨g, 2, none⟩ = false) (x1 : 0 ≤ x) (x2 : x ≤ 100000) :
    CallsD Tryz.prog 28 #[.pointer (some b)] u w fun e u' w' => u' = u ∧ (e = .returned (.tuple #[]) ∧ w' = w.setCell ⟨g, 2, none⟩ (.int .i64 (x - 1))) := by
  go_enter_d Tryz.func28, Tryz.ntmps28
  go_wp2
  go_end0
  exact ⟨rfl, rfl⟩
end Go.Proofs.YtoindammaphefaaGreatDoor
/- The walk of parseSelectorGroup: selectors between commas; its depth is counted up and, by a deferred call, down again. Conditions: they are as Group lets them through. -/
namespace Go.Proofs.YtoindammaphefaaGreatDoor
open Go.RowKit

set_option maxHeartbeats 8000000 in
set_option maxRecDepth 100000 in
theorem grp_any (m : Bool) (d : Nat) (hC : SelC m d) : GrpC m (d + 1) := by
  intro g s dep i l rest w hs hP h0 h1 hl hd hr
  obtain ⟨hl1, hl2, hl3⟩ := hl
  obtain ⟨c0, cs, rfl⟩ : ∃ c0 cs, l = c0 :: cs := by
    cases l with
    | nil => simp at hl1
    | cons p cs => exact ⟨p, cs, rfl⟩
  have hT : grpT m (d + 1) (c0 :: cs) = cpxT m (grpT m d) c0 ++ cs.flatMap fun c => 44 :: 32 :: cpxT m (grpT m d) c := rfl
  have hcs : ∀ c ∈ cs, cpxOK (grpOK d) c := fun c hc => hl3 c (by simp [hc])
  have hends : ∀ k : List Cpx, endsCpx (k.flatMap (fun c => 44 :: 32 :: cpxT m (grpT m d) c) ++ rest) := by
    intro k c hc
    cases k with
    | nil =>
      rcases hr with rfl | ⟨r, rfl⟩
      · cases hc
      · simp at hc; exact .inr hc.symm
    | cons p k => rw [List.flatMap_cons] at hc; simp at hc; exact .inl hc.symm
  have hd1 : s.data.toList.drop i = List.replicate 0 32 ++ (cpxT m (grpT m d) c0 ++ (cs.flatMap (fun c => 44 :: 32 :: cpxT m (grpT m d) c) ++ rest)) := by rw [hd, hT, List.append_assoc]; rfl
  obtain ⟨q0, hq0⟩ : ∃ q0, q0 = i + (cpxT m (grpT m d) c0).length := ⟨_, rfl⟩
  have hd2 : s.data.toList.drop q0 = cs.flatMap (fun c => 44 :: 32 :: cpxT m (grpT m d) c) ++ rest := by rw [hq0]; exact drop_add hd1
  have hq0s : q0 ≤ s.size := by
    obtain ⟨a, r, e, _⟩ := cpxT_hasLead (m := m) (G := grpT m d) (hl3 c0 (by simp))
    rw [hq0]
    exact drop_le hd1 (by rw [e]; simp)
  have hE : i + (grpT m (d + 1) (c0 :: cs)).length = q0 + (cs.flatMap (fun c => 44 :: 32 :: cpxT m (grpT m d) c)).length := by rw [hT, List.length_append, hq0]; omega
  have SEL := Lib.hid (fun W (h : Prs g s (dep + 1) i W) => hC g s (dep + 1) i 0 c0 _ W hs h (by omega) (by omega) (hl3 c0 (by simp)) hd1 (hends cs))
  rw [Nat.add_zero, ← hq0] at SEL
  have hl3' : cs.length ≤ 2 := by simpa using hl2
  have hg := hP.lt
  have hPd := hP.deeper (dep + 1)
  have HP := Lib.hid hP
  have HC := Lib.hid hC
  have HK := Lib.hid hcs
  have HN := Lib.hid hends
  have HR := Lib.hid hr
  have HE := Lib.hid (⟨hE, hd2⟩ : _ ∧ _)
  have b0 := hP.c0
  have b1 := hP.c1
  have b2 := hP.c2
  have bf := hP.fz 2
  have hmf : ∀ (fn : Fn) (first cap : Array Value) (w : World), (Instr.makeFunc fn first cap).run Tryz.prog w = .ok (.func fn first cap) w := fun _ _ _ _ => rfl
  obtain ⟨i2, hi2, hz20, hz21, hz22⟩ := info_parts infoSel
  have hdep : dep ≤ 1000 := by omega
  have HCO := Lib.hid (hl3 c0 (by simp))
  clear hd hd1 hd2 hT hcs hends hr hl1 hl2 hl3 hE hC hP
  have h1' : dep + 1 + d ≤ 1000 := by omega
  clear h1
  go_enter_defers Tryz.func24, Tryz.ntmps24
  go_wp2_with fail
  refine (SEL.out (deeper w g (dep + 1)) hPd).mono ?_
  rintro e w1 ⟨v, rfl, hv, hp1⟩
  obtain ⟨T0, x0, rfl⟩ := hv.iface HCO.out
  have hds := deeper_size w g (dep + 1)
  have hgd : g < (deeper w g (dep + 1)).heap.size := by omega
  have hB0 := Bld.one (e := 66) (turns_cpx d) (w := deeper w g (dep + 1)) hv hp1.size
  have hpa := hp1.alloc hgd (.cells #[.iface T0 x0] 66)
  have HB0 := Lib.hid (⟨hB0, hpa⟩ : _ ∧ _)
  have HDS := Lib.hid hds
  clear hv hB0 hpa hds b0 b1 b2 bf
  go_wp2_with fail
  go_loopw [6] (fun v6 wr' => ∃ (k q : Nat) (A : Option Addr) (cp : Nat), v6 = .slice A (k + 1) cp ∧ k ≤ cs.length ∧ q ≤ s.size ∧ Pos (deeper w g (dep + 1)) wr' g q ∧
      Hid (Bld (fun w P v c => CpxV (CmpV (GrpV w P d) w P) v c) 66 (deeper w g (dep + 1)) wr' (.slice A (k + 1) cp) (c0 :: cs.take k)) ∧
      Hid (s.data.toList.drop q = (cs.drop k).flatMap (fun c => 44 :: 32 :: cpxT m (grpT m d) c) ++ rest ∧ i + (grpT m (d + 1) (c0 :: cs)).length = q + ((cs.drop k).flatMap (fun c => 44 :: 32 :: cpxT m (grpT m d) c)).length))
    (fun _ wr' => s.size - posIn g wr')
  case atStart => exact ⟨0, q0, _, _, rfl, Nat.zero_le _, hq0s, HB0.out.2, HB0.out.1, HE.out.2, HE.out.1⟩
  case round =>
    obtain ⟨k, q, A, cp, rfl, hk, hqs, hpq, HX, HQ⟩ := hrel
    have hPq := hPd.pos hpq
    have d0 := hPq.c0
    have d1 := hPq.c1
    have df := hPq.fz 1
    have d2 := hPq.c2
    have df2 := hPq.fz 2
    have bx := deeper_box hg hpq
    have hpq_self := Pos.start d1
    clear hp1 HB0
    rcases hy : cs[k]? with _ | y
    · have hnl : k = cs.length := by rw [List.getElem?_eq_none_iff] at hy; omega
      have hdr : s.data.toList.drop q = rest := by have := HQ.out.1; rw [hnl, List.drop_length] at this; simpa using this
      have hEE : i + (grpT m (d + 1) (c0 :: cs)).length = q := by have := HQ.out.2; rw [hnl, List.drop_length] at this; simpa using this
      have hbl := HX.out
      have hend : ∀ n, SelEnd (fun w' v => GrpV w' (New w w') (d + 1) v (c0 :: cs)) g (i + (grpT m (d + 1) (c0 :: cs)).length) w (.returned (.tuple #[.slice A (k + 1) cp, .nilIface])) ((wr.drewN n).setCell ⟨g, 2, none⟩ (.int .i64 dep)) := fun n => by
        rw [hEE]
        refine ⟨_, rfl, ?_, Pos.shallower HP.out (hpq.drewN n)⟩
        have hrow := hbl.row (turns_cpx d)
        rw [show c0 :: cs.take k = c0 :: cs by rw [hnl, List.take_length]] at hrow
        have hnew : ∀ b, New (deeper w g (dep + 1)) wr b → New w ((wr.drewN n).setCell ⟨g, 2, none⟩ (.int .i64 dep)) b := fun b hb => ⟨by have := hb.1; rw [HDS.out] at this; omega, by rw [setCell_size]; exact hb.2⟩
        have halk : Alike (New (deeper w g (dep + 1)) wr) wr ((wr.drewN n).setCell ⟨g, 2, none⟩ (.int .i64 dep)) := fun b hb => Below.heap_setCell (wr.drewN n) ⟨g, 2, none⟩ _ b (by have := hb.1; rw [HDS.out] at this; show b ≠ g; omega)
        refine Row.turn hrow hnew halk fun f c _ hf => ?_
        obtain ⟨x, hx0, hx1⟩ := hf
        exact ⟨x, hx0, turns_cpx d _ _ _ _ _ _ hx1 hnew halk⟩
      have HND := Lib.hid hend
      have HDR := Lib.hid hdr
      clear hend hdr hEE hbl hnl hy
      rcases rest with _ | ⟨c', rest'⟩
      · have hq : ¬ (q : Int) < (s.size : Int) := by have := drop_nil HDR.out; omega
        go_wp2_with fail
        go_quiet (fail)
        go_wp2_with fail
        refine leaves_cons (f := 28) (args := #[.pointer (some ⟨w.heap.size, 0, none⟩)]) (by simp) (by simp [go_sem]) ?_
        refine (deferred_any g ⟨w.heap.size, 0, none⟩ (dep + 1) .returning (wr.drewN _) bx d2 df2 (by omega) (by omega)).mono ?_
        rintro e u' w'' ⟨rfl, rfl, rfl⟩
        refine ⟨_, results_tmp2 rfl _ _ _, ?_⟩
        rw [show (dep + 1 - 1 : Int) = dep by omega]
        exact HND.out _
      · have hqz : q < s.size := drop_lt HDR.out
        have hq : (q : Int) < (s.size : Int) := by omega
        have hcq : s[q] = c' := drop_get HDR.out hqz
        have hc41 : c' = 41 := by
          rcases HR.out with h | ⟨r, h⟩
          · cases h
          · injection h
        subst hc41
        go_wp2_with fail
        go_quiet (fail)
        go_wp2_with fail
        go_quiet (fail)
        go_wp2_with fail
        rw [World.drewN_drewN]
        refine leaves_cons (f := 28) (args := #[.pointer (some ⟨w.heap.size, 0, none⟩)]) (by simp) (by simp [go_sem]) ?_
        refine (deferred_any g ⟨w.heap.size, 0, none⟩ (dep + 1) .returning (wr.drewN _) bx d2 df2 (by omega) (by omega)).mono ?_
        rintro e u' w'' ⟨rfl, rfl, rfl⟩
        refine ⟨_, results_tmp2 rfl _ _ _, ?_⟩
        rw [show (dep + 1 - 1 : Int) = dep by omega]
        exact HND.out _
    · have hnl : k < cs.length := (List.getElem?_eq_some_iff.1 hy).1
      have hym : y ∈ cs := List.mem_of_getElem? hy
      have hyo := HK.out y hym
      have hdc := drop_cons hy
      obtain ⟨q1, hq1⟩ : ∃ q1, q1 = q + 1 := ⟨_, rfl⟩
      obtain ⟨q2, hq2⟩ : ∃ q2, q2 = q1 + 1 + (cpxT m (grpT m d) y).length := ⟨_, rfl⟩
      have hT : s.data.toList.drop q = 44 :: 32 :: (cpxT m (grpT m d) y ++ ((cs.drop (k + 1)).flatMap (fun c => 44 :: 32 :: cpxT m (grpT m d) c) ++ rest)) := by rw [HQ.out.1, hdc, List.flatMap_cons]; simp
      have hT1 : s.data.toList.drop q1 = List.replicate 1 32 ++ (cpxT m (grpT m d) y ++ ((cs.drop (k + 1)).flatMap (fun c => 44 :: 32 :: cpxT m (grpT m d) c) ++ rest)) := by rw [hq1]; exact drop_next hT
      have hT2 : s.data.toList.drop q2 = (cs.drop (k + 1)).flatMap (fun c => 44 :: 32 :: cpxT m (grpT m d) c) ++ rest := by
        have h := drop_add hT1
        rw [List.length_replicate] at h
        rw [hq2]; exact drop_add h
      have hq2s : q2 ≤ s.size := by
        have h := drop_add hT1
        rw [List.length_replicate] at h
        obtain ⟨a, r, e, _⟩ := cpxT_hasLead (m := m) (G := grpT m d) hyo
        rw [hq2]; exact drop_le h (by rw [e]; simp)
      have hqz : q < s.size := drop_lt hT
      have hq : (q : Int) < (s.size : Int) := by omega
      have hcq : s[q] = 44 := drop_get hT hqz
      have HQ1 := Lib.hid (show (q : Int) + 1 = (q1 : Int) by omega)
      have hEE : i + (grpT m (d + 1) (c0 :: cs)).length = q2 + ((cs.drop (k + 1)).flatMap (fun c => 44 :: 32 :: cpxT m (grpT m d) c)).length := by
        have := HQ.out.2
        rw [hdc, List.flatMap_cons, List.length_append] at this
        simp only [List.length_cons] at this
        omega
      have hadv : q < q2 := by omega
      have SEL2 := Lib.hid (fun W (h : Prs g s (dep + 1) q1 W) => HC.out g s (dep + 1) q1 1 y _ W hs h (by omega) (by omega) hyo hT1 (HN.out _))
      rw [← hq2] at SEL2
      have htk : c0 :: cs.take k ++ [y] = c0 :: cs.take (k + 1) := by rw [List.take_add_one, hy]; rfl
      have hlN : (c0 :: cs.take k).length = k + 1 := by rw [List.length_cons, List.length_take]; omega
      have HTK := Lib.hid (⟨htk, hT2, hEE, hyo, hlN⟩ : _ ∧ _ ∧ _ ∧ _ ∧ _)
      have HBM := Lib.hid (fun n => (HX.out.drewN (turns_cpx d) n).pos (turns_cpx d) ((Pos.start (w := wr.drewN n) (g := g) (i := q) (by exact d1)).set q1) hgd)
      clear hT hT1 hT2 hEE htk hlN hyo hym hdc hy hq1 hq2
      go_wp2_with fail
      go_quiet (fail)
      go_wp2_with fail
      go_quiet (fail)
      go_wp2_with fail
      simp only [HQ1.out]
      refine (SEL2.out _ (hPq.pos ((hpq_self.drewN _).set q1))).mono ?_
      rintro e w2 ⟨v, rfl, hv, hp2⟩
      have hp3 := ((hpq.drewN _).set q1).trans hp2
      obtain ⟨T1, x1, rfl⟩ := hv.iface HTK.out.2.2.2.1
      have hB2 := (HBM.out _).pos (turns_cpx d) hp2 hgd
      have hv2 := (HBM.out _).fresh (turns_cpx d) (a := y) hv ((hpq.drewN _).set q1).size
      have hB3 := hB2.alloc (turns_cpx d) (.cells #[.iface T1 x1] 66)
      have hv3 := turns_cpx d w2 (w2.alloc (.cells #[.iface T1 x1] 66)) _ (fun b => New (deeper w g (dep + 1)) (w2.alloc (.cells #[.iface T1 x1] 66)) b ∧ (Value.slice A (k + 1) cp).ownBlock ≠ some b) _ _ hv2 (fun b hb => ⟨⟨hb.1.1, by simp; have := hb.1.2; omega⟩, hb.2⟩) (fun b hb => heap_alloc_old _ _ hb.1.2)
      obtain ⟨xs, hown, hadd⟩ := hB3.own
      rw [HTK.out.2.2.2.2] at hown hadd
      have HADD := Lib.hid hadd
      have HVAL := Lib.hid hv3
      have HOWN := Lib.hid hown
      have hp4 := hp3.alloc hgd (.cells #[.iface T1 x1] 66)
      have hws := hp3.size
      have hlt3 := Lib.hid (fun b hb => (hB3.lt b hb).1)
      clear hv hv2 hv3 hadd hown hB2 hB3 hp2
      go_wp2_with (first
        | (at_builtin
           refine wpList_append_own_at _ rfl _ _ 62 rfl (deeper w g (dep + 1)).heap.size 66 i2 _ 1 16 Tryz.underlying62 hi2 hz20 hz21 hz22 rfl (by decide) _ _ _ rfl HOWN.out ⟨w2.heap.size, 0, none⟩ 1 1 [.iface T1 x1] rfl rfl (cell_one_new _ _ _) ?q1 ?q2 ?q3 ?q4 ?_
           case q1 => intro u hu; simp at hu; subst hu; rfl
           case q2 => unfold maxLen; omega
           case q3 => omega
           case q4 => simp; omega
           intro v' w3 hown' hg' _ hat
           have hB5 := HADD.out _ _ v' w3 (turns_cpx d) HVAL.out hown' hg' hat
           rw [HTK.out.1] at hB5
           obtain ⟨A', cp', hv'⟩ := own_slice hown'
           subst hv'
           have hp5 := hp4.grown hgd hg' (fun b hb => hlt3.out b hb)))
      go_roundw
      case rel => exact ⟨k + 1, q2, A', cp', rfl, by omega, by omega, hp5, hB5, HTK.out.2.1, HTK.out.2.2.1⟩
      case measure => rw [hPq.posIn, (hPd.pos hp5).posIn]; omega
end Go.Proofs.YtoindammaphefaaGreatDoor
namespace Go.Proofs.YtoindammaphefaaGreatDoor
open Go.RowKit

theorem grpC (m : Bool) : ∀ d, GrpC m d := by
  intro d
  induction d with
  | zero => intro g s dep i l rest w _ _ _ _ h; exact h.elim
  | succ d ih => exact grp_any m d (sel_any m d (seq_any m d ih))
/-- A group that was parsed; nothing that was there has turned. -/
def ParseEnd (d : Nat) (l : Grp) (w : World) (e : Ending) (w' : World) : Prop :=
  ∃ v, e = .returned (.tuple #[v, .nilIface]) ∧ GrpV w' (New w w') d v l ∧ Below w.heap.size w w'
theorem prs_new (w : World) (s : ByteArray) (b : Bool) : Prs w.heap.size s 0 0 (w.alloc (.cells #[.string s, .int .i64 0, .int .i64 0, .bool b] 73)) := by
  have h := heap_alloc_new w (.cells #[.string s, .int .i64 0, .int .i64 0, .bool b] 73)
  exact ⟨by rw [cell_of_row _ _ _ _ _ _ h]; rfl, by rw [cell_of_row _ _ _ _ _ _ h]; rfl, by rw [cell_of_row _ _ _ _ _ _ h]; rfl, fun o => new_frozen h o⟩
set_option maxHeartbeats 4000000 in
set_option maxRecDepth 100000 in
theorem parsePE_any (m : Bool) (d : Nat) (s : ByteArray) (l : Grp) (w : World) (hs : s.size ≤ 140737488351232) (hd : d ≤ 900) (hl : grpOK d l) (hT : s.data.toList = grpT m d l) :
    Calls Tryz.prog 19 #[.string s] w fun e w' => ParseEnd d l w e w' := by
  have hP := prs_new w s true
  have hlen : (grpT m d l).length = s.size := by rw [← hT]; exact (size_of_data rfl).symm
  have HG := Lib.hid (fun W (h : Prs w.heap.size s 0 0 W) => grpC m d w.heap.size s 0 0 l [] W hs h (by omega) (by omega) hl (by rw [List.drop_zero, hT, List.append_nil]) (.inl rfl))
  rw [Nat.zero_add, hlen] at HG
  clear hT hlen hl
  go_enter Tryz.func19, Tryz.ntmps19
  go_wp2_with fail
  refine (HG.out _ hP).mono ?_
  rintro e w2 ⟨v, rfl, hv, hp⟩
  have hP2 := hP.pos hp
  have d1 := hP2.c1
  obtain ⟨A, n, c, rfl⟩ := hv.slice
  have HV := Lib.hid hv
  have hlt : ¬ (s.size : Int) < (s.size : Int) := by omega
  go_wp2_with fail
  go_ret2
  exact ⟨_, rfl, HV.out.turn (fun b hb => ⟨by have := hb.1; simp at this; omega, hb.2⟩) (Alike.refl _ _), hp.below0 ((Below.refl _ _).alloc (Nat.le_refl _) _) (Nat.le_refl _)⟩
set_option maxHeartbeats 4000000 in
set_option maxRecDepth 100000 in
theorem parseG_any (m : Bool) (d : Nat) (s : ByteArray) (l : Grp) (w : World) (hs : s.size ≤ 140737488351232) (hd : d ≤ 900) (hl : grpOK d l) (hT : s.data.toList = grpT m d l) :
    Calls Tryz.prog 22 #[.string s] w fun e w' => ParseEnd d l w e w' := by
  have hP := prs_new w s false
  have hlen : (grpT m d l).length = s.size := by rw [← hT]; exact (size_of_data rfl).symm
  have HG := Lib.hid (fun W (h : Prs w.heap.size s 0 0 W) => grpC m d w.heap.size s 0 0 l [] W hs h (by omega) (by omega) hl (by rw [List.drop_zero, hT, List.append_nil]) (.inl rfl))
  rw [Nat.zero_add, hlen] at HG
  clear hT hlen hl
  go_enter Tryz.func22, Tryz.ntmps22
  go_wp2_with fail
  refine (HG.out _ hP).mono ?_
  rintro e w2 ⟨v, rfl, hv, hp⟩
  have hP2 := hP.pos hp
  have d1 := hP2.c1
  obtain ⟨A, n, c, rfl⟩ := hv.slice
  have HV := Lib.hid hv
  have hlt : ¬ (s.size : Int) < (s.size : Int) := by omega
  go_wp2_with fail
  go_ret2
  exact ⟨_, rfl, HV.out.turn (fun b hb => ⟨by have := hb.1; simp at this; omega, hb.2⟩) (Alike.refl _ _), hp.below0 ((Below.refl _ _).alloc (Nat.le_refl _) _) (Nat.le_refl _)⟩
end Go.Proofs.YtoindammaphefaaGreatDoor
