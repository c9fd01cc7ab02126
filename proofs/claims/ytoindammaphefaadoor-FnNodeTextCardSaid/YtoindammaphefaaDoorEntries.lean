/- The walk of the thin package's entries: it writes a tree anew, of the same nodes. Condition: the kinds are 1 to 4. -/
import Derived.Test.YtoindammaphefaaDoorNTree
namespace Go.Proofs.YtoindammaphefaaDoor
open Go.RowKit

theorem infoCA : (Tryd.prog.info? 72).map (fun i => (i.zero, i.size, i.bytes)) = some (some (.agg #[.string ByteArray.empty, .string ByteArray.empty]), 2, 32) := by kernel_rfl
theorem infoCE : (Tryd.prog.info? 71).map (fun i => (i.zero, i.size, i.bytes)) = some (some (.agg #[.int .i64 0, .int .u32 0, .string ByteArray.empty, .slice none 0 0]), 4, 56) := by kernel_rfl

set_option maxHeartbeats 4000000 in
set_option maxRecDepth 100000 in
theorem entries_any (v : Value) (l : List NodeA) (w : World) (hv : Tre .i64 w w.heap.size v l) (hs : l.length ≤ 2147483647) (hsa : ∀ n ∈ l, n.attrs.length ≤ 2147483647 ∧ 1 ≤ n.kind ∧ n.kind ≤ 4) :
    Calls Tryd.prog 24 #[v] w fun e w' => NodesEnd .u32 71 72 l w e w' := by
  obtain ⟨A, c, rfl, _hcap, hc⟩ := hv
  obtain ⟨i1, hi1, hz10, hz11, hz12⟩ := info_parts infoCA
  obtain ⟨i2, hi2, hz20, hz21, hz22⟩ := info_parts infoCE
  have HC := Lib.hid hc
  have HS := Lib.hid hsa
  clear hc hsa
  go_enter Tryd.func24, Tryd.ntmps24
  go_wp2_with (fail)
  go_loopw [3, 12] (fun v3 v12 wr' => ∃ (k : Nat) (ls : List NodeA), v12 = .int .i64 k ∧ k ≤ l.length ∧ Below w.heap.size w wr' ∧ Hid (OwnT .u32 w.heap.size 71 72 wr' v3 ls ∧ ls.map core = (l.take k).map core))
    (fun _v3 v12 _wr => l.length - (intOf v12).toNat)
  case atStart =>
    refine ⟨0, [], rfl, Nat.zero_le _, (Below.refl _ _).alloc (Nat.le_refl _) _, ⟨World.ownsRow_made w #[] 0 (Nat.le_refl _) (by decide) rfl, by simp⟩, rfl⟩
  case round =>
    obtain ⟨k, ls, rfl, hk, hb, H⟩ := hrel
    rcases hl : l[k]? with _ | p
    · have hlt : ¬ ((k : Int) < (l.length : Int)) := by rw [List.getElem?_eq_none_iff] at hl; omega
      have hkl : k = l.length := by rw [List.getElem?_eq_none_iff] at hl; omega
      clear hl
      go_wp2_with (fail)
      go_ret
      exact ⟨_, ls, rfl, H.out.1, by rw [H.out.2, hkl, List.take_length], hb⟩
    · have hkl : k < l.length := (List.getElem?_eq_some_iff.1 hl).1
      have hlt : (k : Int) < (l.length : Int) := by omega
      obtain ⟨ad, rfl, hB, h0, h1, h2, h3, h4⟩ := HC.out k p hl
      have hm : p ∈ l := List.mem_of_getElem? hl
      obtain ⟨hp, hk1, hk4⟩ := HS.out p hm
      have d0 := (hb.cell (by rw [add_lt]; exact hB)).trans h0
      have d1 := cell_add1 _ _ _ ((hb.cell (by rw [add_lt]; exact hB)).trans h1)
      have d2 := cell_add2 _ _ _ ((hb.cell (by rw [add_lt]; exact hB)).trans h2)
      have d3 := cell_add3 _ _ _ ((hb.cell (by rw [add_lt]; exact hB)).trans h3)
      obtain ⟨A', c', hav, _, hatt⟩ := h4
      rw [hav] at d3
      have HL := Lib.hid hl
      have HT := Lib.hid hatt
      clear hl hm h0 h1 h2 h3 hatt hav
      go_wp2_with (fail)
      obtain ⟨W0, rfl⟩ : ∃ W0, W0 = wr := ⟨wr, rfl⟩
      go_loopw [27] (fun v27 wr' => ∃ (j : Nat) (va : Value), v27 = .int .i64 j ∧ j ≤ p.attrs.length ∧ Below (W0.heap.size + 1) (W0.alloc (.cells #[.int .i64 p.parent, .int .i64 p.kind, .string p.data, .slice A' p.attrs.length c'] 47)) wr'
          ∧ wr'.heap[W0.heap.size + 1]? = some (.cells #[.int .i64 p.parent, .int .u32 p.kind, .string p.data, va] 71 (0, 0)) ∧ Hid (OwnA (W0.heap.size + 2) 72 wr' va (p.attrs.take j)))
        (fun v27 _wr => p.attrs.length - (intOf v27).toNat)
      case atStart =>
        refine ⟨0, .slice none 0 0, rfl, Nat.zero_le _, (Below.refl _ _).alloc (by simp) _, ?_, World.ownsRow_nil _ _ _ _⟩
        have := heap_alloc_new (W0.alloc (.cells #[.int .i64 p.parent, .int .i64 p.kind, .string p.data, .slice A' p.attrs.length c'] 47)) (.cells #[.int .i64 p.parent, .int .u32 p.kind, .string p.data, .slice none 0 0] 71)
        simpa using this
      case round =>
        obtain ⟨j, va, rfl, hj, hbl, hx, HA⟩ := hrel
        have hgx := blk_lt hx
        have hbw := (hb.alloc hb.size _).trans (hbl.mono (by have := hb.size; omega))
        rcases hq : p.attrs[j]? with _ | q
        · have hltj : ¬ ((j : Int) < (p.attrs.length : Int)) := by rw [List.getElem?_eq_none_iff] at hq; omega
          have hjl : j = p.attrs.length := by rw [List.getElem?_eq_none_iff] at hq; omega
          clear hq
          have hbW : Below W0.heap.size W0 wr := ((Below.refl _ _).alloc (Nat.le_refl _) _).trans (hbl.mono (by omega))
          have e0 : wr.cell? ⟨W0.heap.size + 1, 0, none⟩ = some (.int .i64 p.parent) := by rw [cell_of_row _ _ _ _ _ _ hx]; rfl
          have e1 : wr.cell? ⟨W0.heap.size + 1, 1, none⟩ = some (.int .u32 p.kind) := by rw [cell_of_row _ _ _ _ _ _ hx]; rfl
          have e2 : wr.cell? ⟨W0.heap.size + 1, 2, none⟩ = some (.string p.data) := by rw [cell_of_row _ _ _ _ _ _ hx]; rfl
          have e3 : wr.cell? ⟨W0.heap.size + 1, 3, none⟩ = some va := by rw [cell_of_row _ _ _ _ _ _ hx]; rfl
          rw [hjl, List.take_length] at HA
          obtain ⟨A3, c3, rfl⟩ := own_slice HA.out
          have HO := Lib.hid (H.out.1.keep H.out.1.lt hbW)
          have hlen : ls.length = k := by
            have := congrArg List.length H.out.2
            simp at this
            omega
          have hlk : ls.length + 1 ≤ 2147483647 := by omega
          clear hx hbl
          go_wp2_with (first
            | (at_builtin
               refine wpList_append_own _ rfl _ _ 53 rfl w.heap.size 71 i2 _ 4 56 Tryd.underlying53 hi2 hz20 hz21 hz22 rfl (by decide) _ _ _ rfl (HO.out.1.alloc _) ⟨wr.heap.size, 0, none⟩ 1 1 [.int .i64 p.parent, .int .u32 p.kind, .string p.data, .slice A3 p.attrs.length c3] rfl rfl (cell_four _ _ _ _ _ _) ?q1 ?q2 ?q3 ?q4 ?_
               case q1 => intro u hu; simp at hu; rcases hu with rfl | rfl | rfl | rfl <;> rfl
               case q2 => unfold maxLen; omega
               case q3 => omega
               case q4 => simp; have := hbw.size; omega
               intro v' w' hown' hg' _))
          have hgb : ∀ g, u3.ownBlock = some g → w.heap.size ≤ g := fun g hg => (HO.out.1.lt g hg).1
          refine ⟨⟨k + 1, ls ++ [⟨p.parent, p.kind, p.data, .slice A3 p.attrs.length c3, p.attrs⟩], by go_num, by omega, (hbw.alloc hbw.size _).grown hg' (by simp; have := hbw.size; omega) hgb, ⟨?_, ?_⟩, ?_⟩, by simp [intOf]; omega⟩
          · simpa [ncells, hlen] using hown'
          · intro n hn
            rcases List.mem_append.1 hn with hn | hn
            · refine own_keep (HO.out.2 n hn) fun g hgn => ?_
              have h1 := (HO.out.2 n hn).lt g hgn
              rw [hg'.block g (by simp; omega) (fun e => ?_)]
              · exact heap_alloc_old _ _ h1.2
              · rcases own_types (HO.out.2 n hn) HO.out.1 (by decide) with h0 | h0
                · rw [h0] at hgn; cases hgn
                · exact h0 (hgn.trans e)
            · simp at hn
              subst hn
              have HA' : OwnA w.heap.size 72 wr (.slice A3 p.attrs.length c3) p.attrs := by
                rcases HA.out.2 with h0 | ⟨g, cap, cur, h0, h1, h2⟩
                · exact ⟨HA.out.1, .inl h0⟩
                · exact ⟨HA.out.1, .inr ⟨g, cap, cur, h0, by have := hb.size; omega, h2⟩⟩
              refine own_keep HA' fun g hgn => ?_
              have h1 := HA'.lt g hgn
              rw [hg'.block g (by simp; omega) (fun e => ?_)]
              · exact heap_alloc_old _ _ h1.2
              · rcases own_types HA' HO.out.1 (by decide) with h0 | h0
                · rw [h0] at hgn; cases hgn
                · exact h0 (hgn.trans e)
          · rw [List.map_append, H.out.2, take_next HL.out, List.map_append]; rfl
        · have hjl : j < p.attrs.length := (List.getElem?_eq_some_iff.1 hq).1
          have hltj : (j : Int) < (p.attrs.length : Int) := by omega
          obtain ⟨ad', rfl, hB', e0, e1⟩ := HT.out j q hq
          have g0 := (hbw.cell (by rw [add_lt]; exact hB')).trans e0
          have g1 := cell_add1 _ _ _ ((hbw.cell (by rw [add_lt]; exact hB')).trans e1)
          have c3 : wr.cell? ⟨W0.heap.size + 1, 3, none⟩ = some va := by rw [cell_of_row _ _ _ _ _ _ hx]; rfl
          have HQ := Lib.hid hq
          clear hq e0 e1
          go_wp2_with (first
            | (at_builtin
               refine wpList_append_own _ rfl _ _ 69 rfl (W0.heap.size + 2) 72 i1 _ 2 32 Tryd.underlying69 hi1 hz10 hz11 hz12 rfl (by decide) _ _ _ rfl ((HA.out.alloc _).alloc _) ⟨wr.heap.size + 1, 0, none⟩ 1 1 [.string q.1, .string q.2] rfl rfl ?p0 ?p1 ?p2 ?p3 ?p4 ?_
               case p0 => have h := cell_two_new (wr.alloc (.cells #[.string q.1, .string q.2] 50)) (.string q.1) (.string q.2) 72; simpa using h
               case p1 => intro u hu; simp at hu; rcases hu with rfl | rfl <;> rfl
               case p2 => unfold maxLen; simp; omega
               case p3 => simp; omega
               case p4 => simp; omega
               intro v' w' hown' hg' _
               obtain ⟨A2, c2, rfl⟩ := own_slice hown'
               have hx' : w'.heap[W0.heap.size + 1]? = some (.cells #[.int .i64 p.parent, .int .u32 p.kind, .string p.data, va] 71 (0, 0)) :=
                 (hg'.block _ (by simp; omega) (fun e => by have := (HA.out.lt _ e.symm).1; omega)).trans ((heap_alloc_old _ _ (by simp; omega)).trans ((heap_alloc_old _ _ hgx).trans hx))
               have k3 : w'.cell? ⟨W0.heap.size + 1, 3, none⟩ = some va := by rw [cell_of_row _ _ _ _ _ _ hx']; rfl
               have f3 := blk_frozen hx' 3))
          have hbl' := ((hbl.alloc (by omega) (.cells #[.string q.1, .string q.2] 50)).alloc (by simp; omega) (.cells #[.string q.1, .string q.2] 72)).grown hg' (by simp; omega) (fun g hg => by have := (HA.out.lt g hg).1; omega)
          refine ⟨⟨j + 1, _, by go_num, by omega, hbl'.setCell (by simp) _, heap_set_same hx' 3 _, ?_⟩, by simp [intOf]; omega⟩
          refine own_keep (by rw [take_next HQ.out]; simpa [OwnA, acells, Nat.min_eq_left hj] using hown') fun g hgn => ?_
          exact Below.heap_setCell _ _ _ _ (by have := (hown'.lt g (by rw [List.length_take, Nat.min_eq_left hj]; exact hgn)).1; simp; omega)
end Go.Proofs.YtoindammaphefaaDoor
