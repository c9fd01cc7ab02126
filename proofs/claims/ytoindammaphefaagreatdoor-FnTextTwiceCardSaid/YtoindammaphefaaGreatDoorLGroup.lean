/- The walk of the law's group: it lays selectors anew. -/
import Derived.Test.YtoindammaphefaaGreatDoorBld
import Derived.Test.YtoindammaphefaaGreatDoorGets
import Derived.Test.YtoindammaphefaaGreatDoorWcomb
import Derived.Deep.RegionHeld3
import Derived.Deep.AppendLies
/- Slices that a call builds by append, of things of n cells that lie in new blocks. No program in sight. -/
namespace Go.Proofs.YtoindammaphefaaGreatDoor
open Go.RowKit

/-- R is kept where the blocks that it names are. -/
def TurnsN {α : Type} (R : World → (Nat → Prop) → (Nat → Value) → α → Prop) : Prop := ∀ w w' P P' x a, R w P x a → (∀ b, P b → P' b) → Alike P w w' → R w' P' x a
def cellsN (n : Nat) (x : Nat → Value) : List Value := (List.range n).map x
/-- Things that were gathered from w on, in the slice v. -/
def BldN {α : Type} (n : Nat) (R : World → (Nat → Prop) → (Nat → Value) → α → Prop) (e : TypeId) (w wr : World) (v : Value) (l : List α) : Prop :=
  ∃ ls : List ((Nat → Value) × α), ls.map (·.2) = l ∧ wr.ownsRow w.heap.size e n v l.length (ls.flatMap fun q => cellsN n q.1) ∧ ∀ q ∈ ls, R wr (fun b => New w wr b ∧ v.ownBlock ≠ some b) q.1 q.2
section
variable {α : Type} {n : Nat} {R : World → (Nat → Prop) → (Nat → Value) → α → Prop} {e : TypeId} {w wr w2 : World} {v : Value} {l : List α}
theorem BldN.nil : BldN n R e w wr (.slice none 0 0) [] := ⟨[], rfl, World.ownsRow_nil _ _ _ _, fun q hq => by cases hq⟩
theorem BldN.slice (h : BldN n R e w wr v l) : ∃ A c, v = .slice A l.length c := by obtain ⟨ls, _, h2, _⟩ := h; exact own_slice h2
theorem BldN.lt (h : BldN n R e w wr v l) (b : Nat) (hb : v.ownBlock = some b) : New w wr b := by
  obtain ⟨ls, _, h2, _⟩ := h
  exact h2.lt b hb
theorem BldN.on (hT : TurnsN R) (h : BldN n R e w wr v l) (ha : Alike (New w wr) wr w2) (hs : wr.heap.size ≤ w2.heap.size) : BldN n R e w w2 v l := by
  obtain ⟨ls, h1, h2, h3⟩ := h
  refine ⟨ls, h1, own_keep h2 fun k hk => ha k (h2.lt k hk), fun q hq => ?_⟩
  exact hT _ _ _ _ _ _ (h3 q hq) (fun b hb => ⟨⟨hb.1.1, Nat.lt_of_lt_of_le hb.1.2 hs⟩, hb.2⟩) fun b hb => ha b hb.1
theorem BldN.alloc (hT : TurnsN R) (h : BldN n R e w wr v l) (o : Obj) : BldN n R e w (wr.alloc o) v l := h.on hT (fun b hb => heap_alloc_old _ _ hb.2) (by simp)
theorem BldN.drewN (hT : TurnsN R) (h : BldN n R e w wr v l) (k : Nat) : BldN n R e w (wr.drewN k) v l := h.on hT (fun _ _ => rfl) (Nat.le_refl _)
/-- What the law on append asks, and what it leaves. -/
theorem BldN.own (h : BldN n R e w wr v l) : ∃ xs, wr.ownsRow w.heap.size e n v l.length xs ∧ ∀ (x : Nat → Value) (a : α) (v' : Value) (w3 : World) (_ : TurnsN R), R wr (fun b => New w wr b ∧ v.ownBlock ≠ some b) x a →
    w3.ownsRow w.heap.size e n v' (l.length + 1) (xs ++ cellsN n x) → wr.grownBy w3 v.ownBlock → (v'.ownBlock = v.ownBlock ∨ v'.ownBlock = some wr.heap.size) → BldN n R e w w3 v' (l ++ [a]) := by
  obtain ⟨ls, h1, h2, h3⟩ := h
  refine ⟨_, h2, fun x a v' w3 hT hx hown hg hat => ?_⟩
  have hne : ∀ b, New w wr b → v.ownBlock ≠ some b → v'.ownBlock ≠ some b := fun b hb hv => by
    rcases hat with h | h
    · rw [h]; exact hv
    · rw [h]; intro e; injection e with e; have := hb.2; omega
  have hal : Alike (fun b => New w wr b ∧ v.ownBlock ≠ some b) wr w3 := fun b hb => hg.block b hb.1.2 (fun e => hb.2 e.symm)
  have hpp : ∀ b, New w wr b ∧ v.ownBlock ≠ some b → New w w3 b ∧ v'.ownBlock ≠ some b := fun b hb => ⟨⟨hb.1.1, Nat.lt_of_lt_of_le hb.1.2 hg.size⟩, hne b hb.1 hb.2⟩
  refine ⟨ls ++ [(x, a)], by simp [h1], by simpa using hown, fun q hq => ?_⟩
  rcases List.mem_append.1 hq with hq | hq
  · exact hT _ _ _ _ _ _ (h3 q hq) hpp hal
  · simp at hq
    subst hq
    exact hT _ _ _ _ _ _ hx hpp hal
theorem BldN.row (hT : TurnsN R) (h : BldN n R e w wr v l) : Row n (fun f a => ∃ x : Nat → Value, (∀ j, j < n → f j = some (x j)) ∧ R wr (New w wr) x a) wr (New w wr) v l := by
  obtain ⟨ls, h1, h2, h3⟩ := h
  have hl : l.length = ls.length := by rw [← h1, List.length_map]
  have h2' := h2
  rw [hl] at h2'
  have hr := own_row (fun q : (Nat → Value) × α => cellsN n q.1) (fun _ => by simp [cellsN]) h2'
  have hm := Row.map (g := fun q : (Nat → Value) × α => q.2) (R' := fun f a => ∃ x : Nat → Value, (∀ j, j < n → f j = some (x j)) ∧ R wr (New w wr) x a) hr fun f q hq hf => ⟨q.1, fun j hj => by rw [hf j hj]; simp [cellsN, hj], hT _ _ _ _ _ _ (h3 q hq) (fun b hb => hb.1) (Alike.refl _ _)⟩
  rw [h1] at hm
  exact Row.turn hm (fun b hb => h2.lt b hb) (Alike.refl _ _) fun _ _ _ h => h
/-- A thing that was made behind it, in newer blocks. -/
theorem BldN.fresh (hT : TurnsN R) (h : BldN n R e w wr v l) {x : Nat → Value} {a : α} (hx : R w2 (New wr w2) x a) (hs : w.heap.size ≤ wr.heap.size) : R w2 (fun b => New w w2 b ∧ v.ownBlock ≠ some b) x a :=
  hT _ _ _ _ _ _ hx (fun b hb => ⟨⟨Nat.le_trans hs hb.1, hb.2⟩, fun e => by have := (h.lt b e).2; have := hb.1; omega⟩) (Alike.refl _ _)
end
/-- The nine cells of a simple selector; the two of a compound one; the one of a complex one. -/
def simR (D : Nat) (w : World) (P : Nat → Prop) (x : Nat → Value) (s : Sim) : Prop := SimIn (GrpIn w P D) (fun j => some (x j)) s
def cmpR (D : Nat) (w : World) (P : Nat → Prop) (x : Nat → Value) (p : Cmp) : Prop := CmpIn (GrpIn w P D) w P (fun j => some (x j)) p
def cpxR (D : Nat) (w : World) (P : Nat → Prop) (x : Nat → Value) (c : Cpx) : Prop := CellIn (GrpIn w P D) w P (fun j => some (x j)) c
theorem turnsN_sim (D : Nat) : TurnsN (simR D) := fun _ _ _ _ _ _ h hp ha => h.turn fun _ _ h => h.turn hp ha
theorem turnsN_cmp (D : Nat) : TurnsN (cmpR D) := fun _ _ _ _ _ _ h hp ha => h.turn hp ha fun _ _ h => h.turn hp ha
theorem turnsN_cpx (D : Nat) : TurnsN (cpxR D) := fun _ _ _ _ _ _ h hp ha => h.turn hp ha fun _ _ h => h.turn hp ha
end Go.Proofs.YtoindammaphefaaGreatDoor
namespace Go.Proofs.YtoindammaphefaaGreatDoor
open Go.RowKit

def GroupMk (D : Nat) : Prop := ∀ (w : World) (P : Nat → Prop) (v : Value) (l : Grp), GrpIn w P D v l → smallG D l → (∀ b, P b → b < w.heap.size) →
  Calls Tryz.prog 5 #[v] w fun e w' => ∃ v', e = .returned v' ∧ GrpIn w' (New w w') D v' l ∧ Below w.heap.size w w'
theorem info_sim : (Tryz.prog.info? 47).map (fun i => (i.zero, i.size, i.bytes)) = some (some (.agg #[.int .i64 0, .string ⟨#[]⟩, .string ⟨#[]⟩, .bool false, .int .i64 0, .int .i64 0, .bool false, .bool false, .slice none 0 0]), 9, 96) := by kernel_rfl
theorem info_cmp : (Tryz.prog.info? 43).map (fun i => (i.zero, i.size, i.bytes)) = some (some (.agg #[.string ⟨#[]⟩, .slice none 0 0]), 2, 40) := by kernel_rfl
theorem info_cpx : (Tryz.prog.info? 31).map (fun i => (i.zero, i.size, i.bytes)) = some (some (.slice none 0 0), 1, 24) := by kernel_rfl
theorem bld_made {α : Type} {n : Nat} {R : World → (Nat → Prop) → (Nat → Value) → α → Prop} (w : World) (e : TypeId) : BldN n R e w (w.alloc (.cells #[] e)) (.slice (some ⟨w.heap.size, 0, none⟩) 0 0) [] :=
  ⟨[], rfl, World.ownsRow_made w #[] 0 (Nat.le_refl _) (by decide) (by simp), fun q hq => by cases hq⟩
theorem parts_row {D : Nat} {w wr : World} {v : Value} {e : TypeId} {l : List Sim} (h : BldN 9 (simR D) e w wr v l) : PartsIn (GrpIn wr (New w wr) D) wr (New w wr) v l :=
  Row.turn (h.row (turnsN_sim D)) (fun _ hb => hb) (Alike.refl _ _) fun f a _ ⟨x, hx, h0, h1, h2, h3, h4, h5, h6, h7, y, h8, hg⟩ =>
    ⟨(hx 0 (by decide)).trans h0, (hx 1 (by decide)).trans h1, (hx 2 (by decide)).trans h2, (hx 3 (by decide)).trans h3, (hx 4 (by decide)).trans h4, (hx 5 (by decide)).trans h5, (hx 6 (by decide)).trans h6, (hx 7 (by decide)).trans h7, y, (hx 8 (by decide)).trans h8, hg⟩
theorem cpx_row {D : Nat} {w wr : World} {v : Value} {e : TypeId} {l : Cpx} (h : BldN 2 (cmpR D) e w wr v l) : CpxIn (GrpIn wr (New w wr) D) wr (New w wr) v l :=
  Row.turn (h.row (turnsN_cmp D)) (fun _ hb => hb) (Alike.refl _ _) fun f a _ ⟨x, hx, h0, y, h1, hg⟩ => ⟨(hx 0 (by decide)).trans h0, y, (hx 1 (by decide)).trans h1, hg⟩
theorem below_drew_ {B : Nat} (a : World) : Below B a a.drew := ⟨rfl, rfl, rfl, Nat.le_refl _, fun _ _ => rfl⟩
theorem below_drew2 {B : Nat} {a w : World} (h : Below B a w) : Below B a w.drew := ⟨h.os, h.tape, h.output, h.size, h.block⟩
/-- Nine cells as a thing of nine cells. -/
def nine (a0 a1 a2 a3 a4 a5 a6 a7 a8 : Value) : Nat → Value := fun j => if j = 0 then a0 else if j = 1 then a1 else if j = 2 then a2 else if j = 3 then a3 else if j = 4 then a4 else if j = 5 then a5 else if j = 6 then a6 else if j = 7 then a7 else a8
theorem lies_own {v v' : Value} {g H : Nat} {n c : Nat} (h : v.ownBlock = some g ∨ g = H) (hv : v' = .slice (some ⟨g, 0, none⟩) n c) : v'.ownBlock = v.ownBlock ∨ v'.ownBlock = some H := by
  subst hv
  rcases h with h | h
  · exact .inl h.symm
  · exact .inr (congrArg some h)
theorem arm_own {D : Nat} {T : TypeId} {WB wc w5 : World} {X : Obj} {A4 : Option Addr} {k3 cap4 : Nat} {l : List Sim} {s : Sim} {v' : Value} (hl : l.length = k3) (H : BldN 9 (simR D) T WB (w5.alloc X) (.slice A4 k3 cap4) l)
    (hg : GrpIn w5 (New wc w5) D v' s.subs) (hne : ∀ b, (Value.slice A4 k3 cap4).ownBlock = some b → b < wc.heap.size) (hbase : WB.heap.size ≤ wc.heap.size) :
    ∃ xs, (w5.alloc X).ownsRow WB.heap.size T 9 (.slice A4 k3 cap4) k3 xs ∧ ∀ g cap w6, w6.ownsRow WB.heap.size T 9 (.slice (some ⟨g, 0, none⟩) (k3 + 1) cap) (k3 + 1) (xs ++ [.int .i64 s.kind, .string s.name, .string s.value, .bool s.fold, .int .i64 s.a, .int .i64 s.b, .bool s.last, .bool s.ofType, v']) →
      (w5.alloc X).grownBy w6 (Value.slice A4 k3 cap4).ownBlock → ((Value.slice A4 k3 cap4).ownBlock = some g ∨ g = (w5.alloc X).heap.size) → BldN 9 (simR D) T WB w6 (.slice (some ⟨g, 0, none⟩) (k3 + 1) cap) (l ++ [s]) := by
  obtain ⟨xs, h1, h2⟩ := H.own
  rw [hl] at h1 h2
  refine ⟨xs, h1, fun g cap w6 ho hgr hat => ?_⟩
  refine h2 (nine (.int .i64 s.kind) (.string s.name) (.string s.value) (.bool s.fold) (.int .i64 s.a) (.int .i64 s.b) (.bool s.last) (.bool s.ofType) v') s _ w6 (turnsN_sim D) ?_ ho hgr (lies_own hat rfl)
  refine ⟨rfl, rfl, rfl, rfl, rfl, rfl, rfl, rfl, _, rfl, hg.turn (fun b hb => ⟨⟨Nat.le_trans hbase hb.1, ?_⟩, fun e => ?_⟩) (fun b hb => heap_alloc_old _ _ hb.2)⟩
  · have := hb.2; simp; omega
  · have := hne b e; have := hb.1; omega
theorem arm_far {w5 w6 : World} {X : Obj} {row : Option Nat} {B : Nat} {o : Option Obj} (hg : (w5.alloc X).grownBy w6 row) (h : w5.heap[B]? = o) (hB : B < w5.heap.size) (hne : some B ≠ row) : w6.heap[B]? = o :=
  (hg.block B (by simp; omega) hne).trans ((heap_alloc_old w5 _ hB).trans h)
theorem arm_ne {n : Nat} {row : Option Nat} {lo hi : Nat} (h : ∀ b, row = some b → lo ≤ b ∧ b < hi) (hn : n < lo ∨ hi ≤ n) (e : some n = row) : False := by have := h n e.symm; omega
/-- Two cells as a thing of two cells. -/
def two (a b : Value) : Nat → Value := fun j => if j = 0 then a else b
set_option maxHeartbeats 4000000 in
set_option maxRecDepth 100000 in
theorem group_mk_step (D : Nat) (hR : GroupMk D) : GroupMk (D + 1) := by
  intro w P v l hv hsm hP
  obtain ⟨A, c0, rfl⟩ := hv.slice
  have hlen : l.length ≤ 140737488351232 := by have := hsm.1; omega
  obtain ⟨i1, hi1, hz10, hz11, hz12⟩ := info_parts info_sim
  obtain ⟨i2, hi2, hz20, hz21, hz22⟩ := info_parts info_cmp
  obtain ⟨i3, hi3, hz30, hz31, hz32⟩ := info_parts info_cpx
  have HR := Lib.hid hR
  have HV := Lib.hid hv
  have HP := Lib.hid hP
  have HS := Lib.hid hsm
  clear hR hv hP hsm
  go_enter Tryz.func5, Tryz.ntmps5
  go_wp2_with fail
  go_loopw [3, 15] (fun v3 v15 wr' => ∃ k : Nat, v15 = .int .i64 k ∧ k ≤ l.length ∧ Below w.heap.size w wr' ∧ Hid (BldN 1 (cpxR D) 31 w wr' v3 (l.take k)))
    (fun _ v15 _ => l.length - (intOf v15).toNat)
  case atStart => exact ⟨0, rfl, Nat.zero_le _, (Below.refl _ _).alloc (Nat.le_refl _) _, Lib.hid (bld_made w _)⟩
  case round =>
    obtain ⟨k, rfl, hk, hb, H⟩ := hrel
    rcases hc : l[k]? with _ | c
    · have hkl : k = l.length := by rw [List.getElem?_eq_none_iff] at hc; omega
      have hlt : ¬ ((k : Int) < (l.length : Int)) := by omega
      have hrow := H.out
      rw [hkl, List.take_length] at hrow
      have HROW := Lib.hid hrow
      have HB := Lib.hid hb
      clear hc hb hrow
      go_wp2_with fail
      go_ret
      refine ⟨_, rfl, ?_, HB.out⟩
      refine Row.turn (HROW.out.row (turnsN_cpx D)) (fun b hb => hb) (Alike.refl _ _) fun f a _ h => ?_
      obtain ⟨x, hx, y, hy, hz⟩ := h
      exact ⟨y, (hx 0 (by decide)).trans hy, hz⟩
    · have hkl : k < l.length := (List.getElem?_eq_some_iff.1 hc).1
      have hlt : (k : Int) < (l.length : Int) := by omega
      obtain ⟨D', ad, hD, rfl, hPa, cv, hcv, hcx⟩ := HV.out.get hc
      obtain rfl : D = D' := by omega
      clear hD
      obtain ⟨A2, cap2, rfl⟩ := hcx.slice
      have hal := Alike.below hb HP.out
      have e0 : wr.cell? (ad.add k) = some (.slice A2 c.length cap2) := (hal.cell (by rw [add_lt]; exact hPa)).trans hcv
      have hsc := HS.out.2 c (List.mem_of_getElem? hc)
      have hclen : c.length ≤ 140737488351232 := by have := hsc.1; omega
      have hc40 : 40 * c.length ≤ 140737488351232 := by have := hsc.1; omega
      have HCX := Lib.hid hcx
      have HSC := Lib.hid hsc
      have HL := Lib.hid hc
      have HB := Lib.hid hb
      clear hc hcv hcx hal hsc hPa hb
      go_wp2_with fail
      obtain ⟨W0, rfl⟩ : ∃ W0, W0 = wr := ⟨wr, rfl⟩
      go_loopw [6, 22] (fun v6 v22 wr' => ∃ k2 : Nat, v22 = .int .i64 k2 ∧ k2 ≤ c.length ∧ Below W0.heap.size W0 wr' ∧ Hid (BldN 2 (cmpR D) 43 W0 wr' v6 (c.take k2)))
        (fun _ v22 _ => c.length - (intOf v22).toNat)
      case atStart => exact ⟨0, rfl, Nat.zero_le _, (Below.refl _ _).alloc (Nat.le_refl _) _, Lib.hid (bld_made W0 _)⟩
      case round =>
        obtain ⟨k2, rfl, hk2, hb, H2⟩ := hrel
        rcases hp : c[k2]? with _ | p
        · have hkl2 : k2 = c.length := by rw [List.getElem?_eq_none_iff] at hp; omega
          have hlt2 : ¬ ((k2 : Int) < (c.length : Int)) := by omega
          have hrow := H2.out
          rw [hkl2, List.take_length] at hrow
          obtain ⟨A4, cap4, rfl⟩ := hrow.slice
          have hB2 := H.out.on (turnsN_cpx D) (Alike.below hb fun b hb => hb.2) hb.size
          have hB3 := hB2.alloc (turnsN_cpx D) (.cells #[.slice A4 c.length cap4] 31)
          have hel : cpxR D (wr.alloc (.cells #[.slice A4 c.length cap4] 31)) (fun b => New w (wr.alloc (.cells #[.slice A4 c.length cap4] 31)) b ∧ u3.ownBlock ≠ some b) (fun _ => .slice A4 c.length cap4) c := by
            refine ⟨_, rfl, (cpx_row hrow).turn (fun b hb' => ⟨⟨?_, ?_⟩, fun e => ?_⟩) (fun b hb' => heap_alloc_old _ _ hb'.2) fun v l h => h.turn (fun b hb' => ⟨⟨?_, ?_⟩, fun e => ?_⟩) (fun b hb' => heap_alloc_old _ _ hb'.2)⟩
            all_goals
              have h1 := hb'.1
              have h2 := hb'.2
              have h3 := HB.out.size
              first
                | omega
                | (simp; omega)
                | (have := (H.out.lt b e).2; omega)
          obtain ⟨xs, hown, hadd⟩ := hB3.own
          have hlt := Lib.hid (fun b hb => (hB3.lt b hb).1)
          have hcl : (l.take k).length = k := by rw [List.length_take]; omega
          rw [hcl] at hown hadd
          have HADD := Lib.hid hadd
          have HOWN := Lib.hid hown
          have HEL := Lib.hid hel
          have HBF := Lib.hid ((HB.out.trans (hb.mono HB.out.size)).alloc (by have := HB.out.size; have := hb.size; omega) (.cells #[.slice A4 c.length cap4] 31))
          have hz0 : w.heap.size ≤ wr.heap.size := Nat.le_trans HB.out.size hb.size
          have hl24 : 24 * l.length ≤ 140737488351232 := by have := HS.out.1; omega
          clear hp hb hrow hB2 hB3 hel hown hadd hkl2
          go_wp2_with (
              (at_builtin
               refine wpList_append_own_at _ rfl _ _ 23 rfl w.heap.size 31 i3 _ 1 24 Tryz.underlying23 hi3 hz30 hz31 hz32 rfl (by decide) _ _ _ rfl HOWN.out ⟨wr.heap.size, 0, none⟩ 1 1 [.slice A4 c.length cap4] rfl rfl (cell_one_new _ _ _) ?q1 ?q2 ?q3 ?q4 ?_
               case q1 => intro u hu; simp at hu; subst hu; rfl
               case q2 => unfold maxLen; omega
               case q3 => omega
               case q4 => simp; omega
               intro v' w3 hown' hg' _ hat
               have hB5 := HADD.out _ _ v' w3 (turnsN_cpx D) HEL.out hown' hg' hat))
          have hbe := HBF.out.grown hg' (by simp; omega) (fun g hg => hlt.out g hg)
          have hte : l.take (k + 1) = l.take k ++ [c] := by rw [List.take_add_one, HL.out]; rfl
          exact ⟨⟨k + 1, by go_num, by omega, hbe, Lib.hid (by rw [hte]; exact hB5)⟩, by simp [intOf]; omega⟩
        · have hkl2 : k2 < c.length := (List.getElem?_eq_some_iff.1 hp).1
          have hlt2 : (k2 : Int) < (c.length : Int) := by omega
          obtain ⟨ad2, rfl, hPa2, hj0, pv, hpv, hpi⟩ := HCX.out.get hp
          obtain ⟨A3, cap3, rfl⟩ := hpi.slice
          have hbw := HB.out.trans (hb.mono HB.out.size)
          have hal := Alike.below hbw HP.out
          have f0 : wr.cell? (ad2.add (k2 * 2)) = some (.string p.1) := (hal.cell (by rw [add_lt]; exact hPa2)).trans hj0
          have f1 := cell_add1 _ _ _ ((hal.cell (a := ad2.add (k2 * 2 + 1)) (by rw [add_lt]; exact hPa2)).trans hpv)
          have hsp := HSC.out.2 p (List.mem_of_getElem? hp)
          have hplen : p.2.length ≤ 140737488351232 := by have := hsp.2.1; omega
          have HPI := Lib.hid hpi
          have HSP := Lib.hid hsp
          have HLP := Lib.hid hp
          have HB2 := Lib.hid hb
          have HBW := Lib.hid hbw
          clear hp hj0 hpv hpi hal hsp hPa2 hb hbw
          go_wp2_with fail
          obtain ⟨W1, rfl⟩ : ∃ W1, W1 = wr := ⟨wr, rfl⟩
          go_loopw [32] (fun v32 wr' => ∃ (k3 : Nat) (va : Value), v32 = .int .i64 k3 ∧ k3 ≤ p.2.length ∧ Below (W1.heap.size + 1) (W1.alloc (.cells #[.string p.1, .slice A3 p.2.length cap3] 40)) wr'
              ∧ wr'.heap[W1.heap.size + 1]? = some (.cells #[.string p.1, va] 43 (0, 0))
              ∧ Hid (BldN 9 (simR D) 47 ((W1.alloc (.cells #[.string p.1, .slice A3 p.2.length cap3] 40)).alloc (.cells #[.string p.1, .slice none 0 0] 43)) wr' va (p.2.take k3)))
            (fun v32 _ => p.2.length - (intOf v32).toNat)
          case atStart =>
            refine ⟨0, .slice none 0 0, rfl, Nat.zero_le _, (Below.refl _ _).alloc (by simp) _, ?_, Lib.hid BldN.nil⟩
            have := heap_alloc_new (W1.alloc (.cells #[.string p.1, .slice A3 p.2.length cap3] 40)) (.cells #[.string p.1, .slice none 0 0] 43)
            simpa using this
          case round =>
            obtain ⟨k3, va, rfl, hk3, hb, hx, H3⟩ := hrel
            have hbW : Below W1.heap.size W1 wr := ((Below.refl _ _).alloc (Nat.le_refl _) _).trans (hb.mono (by omega))
            have hgx := blk_lt hx
            rcases hs : p.2[k3]? with _ | s
            · have hkl3 : k3 = p.2.length := by rw [List.getElem?_eq_none_iff] at hs; omega
              have hlt3 : ¬ ((k3 : Int) < (p.2.length : Int)) := by omega
              have hrow := H3.out
              rw [hkl3, List.take_length] at hrow
              obtain ⟨A4, cap4, rfl⟩ := hrow.slice
              have x0 : wr.cell? ⟨W1.heap.size + 1, 0, none⟩ = some (.string p.1) := by rw [cell_of_row _ _ _ _ _ _ hx]; rfl
              have x1 : wr.cell? ⟨W1.heap.size + 1, 1, none⟩ = some (.slice A4 p.2.length cap4) := by rw [cell_of_row _ _ _ _ _ _ hx]; rfl
              have hB2 := H2.out.on (turnsN_cmp D) (Alike.below hbW fun b hb => hb.2) hbW.size
              have hB3 := hB2.alloc (turnsN_cmp D) (.cells #[.string p.1, .slice A4 p.2.length cap4] 43)
              have hel : cmpR D (wr.alloc (.cells #[.string p.1, .slice A4 p.2.length cap4] 43)) (fun b => New W0 (wr.alloc (.cells #[.string p.1, .slice A4 p.2.length cap4] 43)) b ∧ u6.ownBlock ≠ some b) (two (.string p.1) (.slice A4 p.2.length cap4)) p := by
                refine ⟨rfl, _, rfl, (parts_row hrow).turn (fun b hb' => ⟨⟨?_, ?_⟩, fun e => ?_⟩) (fun b hb' => heap_alloc_old _ _ hb'.2) fun v l h => h.turn (fun b hb' => ⟨⟨?_, ?_⟩, fun e => ?_⟩) (fun b hb' => heap_alloc_old _ _ hb'.2)⟩
                all_goals
                  have h1 := hb'.1
                  have h2 := hb'.2
                  have h3 := HB2.out.size
                  simp at h1
                  first
                    | omega
                    | (simp; omega)
                    | (have := (H2.out.lt b e).2; omega)
              obtain ⟨xs, hown, hadd⟩ := hB3.own
              have hlt := Lib.hid (fun b hb => (hB3.lt b hb).1)
              have hcl : (c.take k2).length = k2 := by rw [List.length_take]; omega
              rw [hcl] at hown hadd
              have HADD := Lib.hid hadd
              have HOWN := Lib.hid hown
              have HEL := Lib.hid hel
              have HBF := Lib.hid ((HB2.out.trans (hbW.mono HB2.out.size)).alloc (by have := HB2.out.size; have := hbW.size; omega) (.cells #[.string p.1, .slice A4 p.2.length cap4] 43))
              have hz0 : W0.heap.size ≤ wr.heap.size := Nat.le_trans HB2.out.size hbW.size
              clear hs hb hx hbW hgx hrow hB2 hB3 hel hown hadd hkl3
              go_wp2_with (
                  (at_builtin
                   refine wpList_append_own_at _ rfl _ _ 31 rfl W0.heap.size 43 i2 _ 2 40 Tryz.underlying31 hi2 hz20 hz21 hz22 rfl (by decide) _ _ _ rfl HOWN.out ⟨wr.heap.size, 0, none⟩ 1 1 [.string p.1, .slice A4 p.2.length cap4] rfl rfl (cell_two_new _ _ _ _) ?q1 ?q2 ?q3 ?q4 ?_
                   case q1 => intro u hu; simp at hu; rcases hu with rfl | rfl <;> rfl
                   case q2 => unfold maxLen; omega
                   case q3 => omega
                   case q4 => simp; omega
                   intro v' w3 hown' hg' _ hat
                   have hB5 := HADD.out _ _ v' w3 (turnsN_cmp D) HEL.out hown' hg' hat))
              have hbe := HBF.out.grown hg' (by simp; omega) (fun g hg => hlt.out g hg)
              have hte : c.take (k2 + 1) = c.take k2 ++ [p] := by rw [List.take_add_one, HLP.out]; rfl
              first
                | exact ⟨⟨k2 + 1, by go_num, by omega, hbe, Lib.hid (by rw [hte]; exact hB5)⟩, by simp [intOf]; omega⟩
                | exact ⟨⟨_, _, _, _, _, ⟨k2 + 1, by go_num, by omega, hbe, Lib.hid (by rw [hte]; exact hB5)⟩, rfl, rfl, rfl, rfl, rfl⟩, by simp [intOf]; omega⟩
            · have hkl3 : k3 < p.2.length := (List.getElem?_eq_some_iff.1 hs).1
              have hlt3 : (k3 : Int) < (p.2.length : Int) := by omega
              obtain ⟨ad3, rfl, hPa3, hsi⟩ := HPI.out.get hs
              have hbw := HBW.out.trans (hbW.mono HBW.out.size)
              have hal := Alike.below hbw HP.out
              obtain ⟨sv, ⟨d0, d1, d2, d3, d4, d5, d6, d7, d8⟩, hgi⟩ := hsi.cells hPa3 hal
              obtain ⟨A5, cap5, rfl⟩ := hgi.slice
              have hcl3 : (p.2.take k3).length = k3 := by rw [List.length_take]; omega
              obtain ⟨A4, cap4, hva⟩ := H3.out.slice
              rw [hcl3] at hva
              subst hva
              have hss := HSP.out.2.2 s (List.mem_of_getElem? hs)
              have HSS := Lib.hid hss
              have HGI := Lib.hid hgi
              have HAL := Lib.hid hal
              have HLS := Lib.hid hs
              have HX := Lib.hid hx
              have HB3 := Lib.hid hb
              have HBV := Lib.hid hbw
              clear hs hsi hgi hss hal hPa3 hb hbw hx hbW
              go_upto_region 13 with fail
              have hz9 := HBV.out.size
              have HCALL := Lib.hid (fun (W : World) (hw : Below (wr.heap.size + 1) (wr.alloc (.cells #[.int .i64 s.kind, .string s.name, .string s.value, .bool s.fold, .int .i64 s.a, .int .i64 s.b, .bool s.last, .bool s.ofType, .slice A5 s.subs.length cap5] 45)) W) =>
                HR.out W P _ _ (HGI.out.turn (fun _ h => h) ((HAL.out.alloc (fun b hb => Nat.lt_of_lt_of_le (HP.out b hb) hz9) _).trans (Alike.below hw fun b hb => by have := HP.out b hb; omega))) HSS.out.2.2 (fun b hb => by have := HP.out b hb; have := hw.size; simp at this; omega))
              have hyb := blk_lt HX.out
              have hyn : W1.heap.size + 1 ≠ wr.heap.size := by omega
              have hny : wr.heap.size ≠ W1.heap.size + 1 := by omega
              have hk96 : 96 * p.2.length ≤ 140737488351232 := by have := HSP.out.2.1; omega
              have HNE := Lib.hid (fun b hb => H3.out.lt b hb)
              have HNB := Lib.hid (show ∀ b, (Value.slice A4 k3 cap4).ownBlock = some b → W1.heap.size + 2 ≤ b ∧ b < wr.heap.size from fun b hb => by have := HNE.out b hb; exact ⟨by have := this.1; simp at this; omega, this.2⟩)
              have HNW := Lib.hid (show ∀ b, (Value.slice A4 k3 cap4).ownBlock = some b → b < (wr.alloc (.cells #[.int .i64 s.kind, .string s.name, .string s.value, .bool s.fold, .int .i64 s.a, .int .i64 s.b, .bool s.last, .bool s.ofType, .slice A5 s.subs.length cap5] 45)).drew.heap.size from fun b hb => by have := (HNB.out b hb).2; show b < (wr.alloc (.cells #[.int .i64 s.kind, .string s.name, .string s.value, .bool s.fold, .int .i64 s.a, .int .i64 s.b, .bool s.last, .bool s.ofType, .slice A5 s.subs.length cap5] 45)).heap.size; simp; omega)
              have HXC := Lib.hid ((heap_alloc_old wr (.cells #[.int .i64 s.kind, .string s.name, .string s.value, .bool s.fold, .int .i64 s.a, .int .i64 s.b, .bool s.last, .bool s.ofType, .slice A5 s.subs.length cap5] 45) hyb).trans HX.out)
              have y1 : (wr.alloc (.cells #[.int .i64 s.kind, .string s.name, .string s.value, .bool s.fold, .int .i64 s.a, .int .i64 s.b, .bool s.last, .bool s.ofType, .slice A5 s.subs.length cap5] 45)).cell? ⟨W1.heap.size + 1, 1, none⟩ = some (.slice A4 k3 cap4) := by rw [cell_of_row _ _ _ _ _ _ HXC.out]; rfl
              have HNEW := Lib.hid (heap_alloc_new wr (.cells #[.int .i64 s.kind, .string s.name, .string s.value, .bool s.fold, .int .i64 s.a, .int .i64 s.b, .bool s.last, .bool s.ofType, .slice A5 s.subs.length cap5] 45))
              have H9 := Lib.hid ((H3.out.alloc (turnsN_sim D) (.cells #[.int .i64 s.kind, .string s.name, .string s.value, .bool s.fold, .int .i64 s.a, .int .i64 s.b, .bool s.last, .bool s.ofType, .slice A5 s.subs.length cap5] 45)).drewN (turnsN_sim D) 1)
              have HB9 := Lib.hid (below_drew2 (HB3.out.alloc (by omega) (.cells #[.int .i64 s.kind, .string s.name, .string s.value, .bool s.fold, .int .i64 s.a, .int .i64 s.b, .bool s.last, .bool s.ofType, .slice A5 s.subs.length cap5] 45)))
              clear H3
              rw [show ∀ x, Op.load 41 x = id (Op.load 41 x) from fun _ => rfl]
              go_region_held3 (fun W => W.cell? ⟨wr.heap.size, 0, none⟩ = some (.int .i64 s.kind) ∧ W.cell? ⟨wr.heap.size, 1, none⟩ = some (.string s.name) ∧ W.cell? ⟨wr.heap.size, 2, none⟩ = some (.string s.value) ∧ W.cell? ⟨wr.heap.size, 3, none⟩ = some (.bool s.fold) ∧ W.cell? ⟨wr.heap.size, 4, none⟩ = some (.int .i64 s.a) ∧ W.cell? ⟨wr.heap.size, 5, none⟩ = some (.int .i64 s.b) ∧ W.cell? ⟨wr.heap.size, 6, none⟩ = some (.bool s.last) ∧ W.cell? ⟨wr.heap.size, 7, none⟩ = some (.bool s.ofType) ∧ W.cell? ⟨wr.heap.size, 8, none⟩ = some (.slice A5 s.subs.length cap5))
                (first
                  | exact ⟨x0, x1, x2, x3, x4, x5, x6, x7, x8⟩
                  | exact ⟨z0, z1, z2, z3, z4, z5, z6, z7, z8⟩
                  | exact ⟨by go_simp, by go_simp, by go_simp, by go_simp, by go_simp, by go_simp, by go_simp, by go_simp, by go_simp⟩
                  | go_keep)
                (first
                  | (go_at_call 5
                     refine (HCALL.out _ (below_drew_ _)).mono ?_
                     rintro e w5 ⟨v', rfl, hgin, hb5⟩
                     obtain ⟨A6, cap6, rfl⟩ := hgin.slice
                     have hz5 : wr.heap.size < w5.heap.size := by have := hb5.size; simp at this; omega
                     have HN5 := Lib.hid ((hb5.block _ (by simp)).trans HNEW.out)
                     have HX5 := Lib.hid ((hb5.block _ (by simp; omega)).trans HXC.out)
                     have z0 : w5.cell? ⟨wr.heap.size, 0, none⟩ = some (.int .i64 s.kind) := by rw [cell_of_row _ _ _ _ _ _ HN5.out]; rfl
                     have z1 : w5.cell? ⟨wr.heap.size, 1, none⟩ = some (.string s.name) := by rw [cell_of_row _ _ _ _ _ _ HN5.out]; rfl
                     have z2 : w5.cell? ⟨wr.heap.size, 2, none⟩ = some (.string s.value) := by rw [cell_of_row _ _ _ _ _ _ HN5.out]; rfl
                     have z3 : w5.cell? ⟨wr.heap.size, 3, none⟩ = some (.bool s.fold) := by rw [cell_of_row _ _ _ _ _ _ HN5.out]; rfl
                     have z4 : w5.cell? ⟨wr.heap.size, 4, none⟩ = some (.int .i64 s.a) := by rw [cell_of_row _ _ _ _ _ _ HN5.out]; rfl
                     have z5 : w5.cell? ⟨wr.heap.size, 5, none⟩ = some (.int .i64 s.b) := by rw [cell_of_row _ _ _ _ _ _ HN5.out]; rfl
                     have z6 : w5.cell? ⟨wr.heap.size, 6, none⟩ = some (.bool s.last) := by rw [cell_of_row _ _ _ _ _ _ HN5.out]; rfl
                     have z7 : w5.cell? ⟨wr.heap.size, 7, none⟩ = some (.bool s.ofType) := by rw [cell_of_row _ _ _ _ _ _ HN5.out]; rfl
                     have z8 : w5.cell? ⟨wr.heap.size, 8, none⟩ = some (.slice A5 s.subs.length cap5) := by rw [cell_of_row _ _ _ _ _ _ HN5.out]; rfl
                     have yc : w5.cell? ⟨W1.heap.size + 1, 1, none⟩ = some (.slice A4 k3 cap4) := by rw [cell_of_row _ _ _ _ _ _ HX5.out]; rfl
                     have hy5 : W1.heap.size + 1 < w5.heap.size := by omega
                     have hy6 : W1.heap.size + 1 ≠ w5.heap.size := by omega
                     have hy7 : w5.heap.size ≠ W1.heap.size + 1 := by omega
                     have ye : (w5.alloc (.cells #[.int .i64 s.kind, .string s.name, .string s.value, .bool s.fold, .int .i64 s.a, .int .i64 s.b, .bool s.last, .bool s.ofType, .slice A6 s.subs.length cap6] 47)).cell? ⟨W1.heap.size + 1, 1, none⟩ = some (.slice A4 k3 cap4) := (World.cell?_of_block (heap_alloc_old _ _ hy5)).trans yc
                     have HG5 := Lib.hid hgin
                     have HB5 := Lib.hid (HB9.out.trans (hb5.mono (by simp; omega)))
                     have H5 := Lib.hid ((H9.out.on (turnsN_sim D) (Alike.below hb5 fun b hb => hb.2) hb5.size).alloc (turnsN_sim D) (.cells #[.int .i64 s.kind, .string s.name, .string s.value, .bool s.fold, .int .i64 s.a, .int .i64 s.b, .bool s.last, .bool s.ofType, .slice A6 s.subs.length cap6] 47))
                     clear hgin hb5)
                  | (obtain ⟨xs, hown, hadd⟩ := arm_own hcl3 H5.out HG5.out HNW.out (by simp; omega)
                     refine step_append_lies _ rfl _ _ 41 rfl _ 47 i1 _ 9 96 Tryz.underlying41 hi1 hz10 hz11 hz12 rfl (by decide) _ _ _ rfl hown ⟨w5.heap.size, 0, none⟩ 1 1 [.int .i64 s.kind, .string s.name, .string s.value, .bool s.fold, .int .i64 s.a, .int .i64 s.b, .bool s.last, .bool s.ofType, .slice A6 s.subs.length cap6] rfl rfl (World.news_of_block (heap_alloc_new _ _)) ?q1 (by decide) ?q2 ?q3 ?q4 _ rfl ?_
                     case q1 => intro u hu; simp at hu; rcases hu with rfl | rfl | rfl | rfl | rfl | rfl | rfl | rfl | rfl <;> rfl
                     case q2 => unfold maxLen; omega
                     case q3 => omega
                     case q4 => simp; omega
                     intro g cap w6 hown6 hg6 hat6 hlt6
                     have HB6 := Lib.hid (hadd g cap w6 hown6 hg6 hat6)
                     have HN6 := Lib.hid (arm_far hg6 HN5.out hz5 (arm_ne HNB.out (.inr (Nat.le_refl _))))
                     have HX6 := Lib.hid (arm_far hg6 HX5.out (by omega) (arm_ne HNB.out (.inl (by omega))))
                     have x0 : w6.cell? ⟨wr.heap.size, 0, none⟩ = some (.int .i64 s.kind) := by rw [cell_of_row _ _ _ _ _ _ HN6.out]; rfl
                     have x1 : w6.cell? ⟨wr.heap.size, 1, none⟩ = some (.string s.name) := by rw [cell_of_row _ _ _ _ _ _ HN6.out]; rfl
                     have x2 : w6.cell? ⟨wr.heap.size, 2, none⟩ = some (.string s.value) := by rw [cell_of_row _ _ _ _ _ _ HN6.out]; rfl
                     have x3 : w6.cell? ⟨wr.heap.size, 3, none⟩ = some (.bool s.fold) := by rw [cell_of_row _ _ _ _ _ _ HN6.out]; rfl
                     have x4 : w6.cell? ⟨wr.heap.size, 4, none⟩ = some (.int .i64 s.a) := by rw [cell_of_row _ _ _ _ _ _ HN6.out]; rfl
                     have x5 : w6.cell? ⟨wr.heap.size, 5, none⟩ = some (.int .i64 s.b) := by rw [cell_of_row _ _ _ _ _ _ HN6.out]; rfl
                     have x6 : w6.cell? ⟨wr.heap.size, 6, none⟩ = some (.bool s.last) := by rw [cell_of_row _ _ _ _ _ _ HN6.out]; rfl
                     have x7 : w6.cell? ⟨wr.heap.size, 7, none⟩ = some (.bool s.ofType) := by rw [cell_of_row _ _ _ _ _ _ HN6.out]; rfl
                     have x8 : w6.cell? ⟨wr.heap.size, 8, none⟩ = some (.slice A5 s.subs.length cap5) := by rw [cell_of_row _ _ _ _ _ _ HN6.out]; rfl
                     have yd : w6.cell? ⟨W1.heap.size + 1, 1, none⟩ = some (.slice A4 k3 cap4) := by rw [cell_of_row _ _ _ _ _ _ HX6.out]; rfl
                     have yf := blk_frozen HX6.out 1
                     have HBW6 := Lib.hid ((HB5.out.alloc (by omega) (.cells #[.int .i64 s.kind, .string s.name, .string s.value, .bool s.fold, .int .i64 s.a, .int .i64 s.b, .bool s.last, .bool s.ofType, .slice A6 s.subs.length cap6] 47)).grown hg6 (by simp; omega) (fun b hb => by have := (HNB.out b hb).1; omega))
                     clear hadd hown hown6 hg6 hat6))
              all_goals
                have hte : p.2.take (k3 + 1) = p.2.take k3 ++ [s] := by rw [List.take_add_one, HLS.out]; rfl
                have HREL := Lib.hid (show ∃ (k4 : Nat) (va : Value), Value.int .i64 (((k3 + 1 : Nat) : Int)) = .int .i64 k4 ∧ k4 ≤ p.2.length ∧ Below (W1.heap.size + 1) (W1.alloc (.cells #[.string p.1, .slice (some ad3) p.2.length cap3] 40)) (w6.setCell ⟨W1.heap.size + 1, 1, none⟩ (.slice (some ⟨g, 0, none⟩) (k3 + 1) cap))
                    ∧ (w6.setCell ⟨W1.heap.size + 1, 1, none⟩ (.slice (some ⟨g, 0, none⟩) (k3 + 1) cap)).heap[W1.heap.size + 1]? = some (.cells #[.string p.1, va] 43 (0, 0))
                    ∧ Hid (BldN 9 (simR D) 47 ((W1.alloc (.cells #[.string p.1, .slice (some ad3) p.2.length cap3] 40)).alloc (.cells #[.string p.1, .slice none 0 0] 43)) (w6.setCell ⟨W1.heap.size + 1, 1, none⟩ (.slice (some ⟨g, 0, none⟩) (k3 + 1) cap)) va (p.2.take k4)) by
                  refine ⟨k3 + 1, .slice (some ⟨g, 0, none⟩) (k3 + 1) cap, rfl, by omega, HBW6.out.setCell (p := ⟨W1.heap.size + 1, 1, none⟩) (Nat.le_refl _) _, heap_set_same HX6.out 1 _, Lib.hid ?_⟩
                  rw [hte]
                  exact HB6.out.on (turnsN_sim D) (fun b hb => Below.heap_setCell _ _ _ _ (by have := hb.1; simp at this ⊢; omega)) (by simp))
                clear hte
                go_wp2_with fail
                have hrel := HREL.out
                first
                  | exact ⟨by simpa using hrel, by simp [intOf]; omega⟩
                  | skip
set_option maxHeartbeats 4000000 in
set_option maxRecDepth 100000 in
theorem group_mk_zero : GroupMk 0 := by
  intro w P v l hv _ _
  obtain ⟨rfl, A, c0, rfl⟩ := hv
  go_enter Tryz.func5, Tryz.ntmps5
  go_wp2_with fail
  go_loopw [3, 15] (fun v3 v15 wr' => ∃ g, v3 = .slice (some g) 0 0 ∧ v15 = .int .i64 0 ∧ Below w.heap.size w wr') (fun _ _ _ => 0)
  case atStart => exact ⟨_, rfl, rfl, (Below.refl _ _).alloc (Nat.le_refl _) _⟩
  case round =>
    obtain ⟨g, rfl, rfl, hb⟩ := hrel
    go_wp2_with fail
    go_ret
    exact ⟨_, rfl, ⟨rfl, _, _, rfl⟩, hb⟩
theorem group_mk_any : ∀ D, GroupMk D
  | 0 => group_mk_zero
  | D + 1 => group_mk_step D (group_mk_any D)
end Go.Proofs.YtoindammaphefaaGreatDoor
