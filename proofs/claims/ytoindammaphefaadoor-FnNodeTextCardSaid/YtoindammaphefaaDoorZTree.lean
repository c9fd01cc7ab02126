/- The walk of zzTree: it links the nodes of a list. Conditions: parents ahead of their children, one root alone, ahead of all. -/
import Derived.Test.YtoindammaphefaaDoorSMem
namespace Go.Proofs.YtoindammaphefaaDoor
open Go.RowKit

theorem infoNP : (Tryd.prog.info? 64).map (fun i => (i.zero, i.size, i.bytes)) = some (some (.pointer none), 1, 8) := by kernel_rfl
/-- The nodes that zzTree hands back. -/
def TreeOut (base : Nat) (l : List NodeA) (v : Value) (w : World) : Prop :=
  ∃ b, TreeMem 89 base l l.length b w ∧ w.ownsRow base 64 1 v l.length ((List.range l.length).map fun k => .pointer (some ⟨b k, 0, none⟩))
theorem own_at {w : World} {base : Nat} {e : TypeId} {m : Nat} {v : Value} {f : Nat → Value} (h : w.ownsRow base e 1 v m ((List.range m).map f)) :
    ∃ A c, v = .slice A m c ∧ m ≤ c ∧ ∀ k, k < m → ∃ ad, A = some ad ∧ ad.block < w.heap.size ∧ w.cell? (ad.add k) = some (f k) := by
  have h' := h
  rcases h.2 with ⟨rfl, rfl⟩ | ⟨g, cap, cur, rfl, hb, hg, hc, _⟩
  · exact ⟨_, _, rfl, Nat.le_refl _, fun k hk => by omega⟩
  · exact ⟨_, _, rfl, hc, fun k hk => ⟨_, rfl, (Array.getElem?_eq_some_iff.1 hg).1, h'.cells (g := g) rfl k _ (by rw [List.getElem?_map, List.getElem?_range hk]; rfl)⟩⟩

theorem row_ne {w : World} {b x : Nat} {e T : TypeId} {s n : Nat} {v : Value} {xs : List Value} {cs : Array Value} (h : w.ownsRow b e s v n xs) (hx : w.heap[x]? = some (.cells cs T (0, 0))) (hne : e ≠ T) : v.ownBlock ≠ some x := by
  intro he
  rcases h.2 with ⟨rfl, _⟩ | ⟨g, cap, cur, rfl, _, hg, _⟩
  · cases he
  · simp only [Value.ownBlock, Option.some.injEq] at he
    subst he
    rw [hg] at hx
    injection hx with hx
    injection hx with _ ht
    exact hne ht
theorem scSize (w : World) (a : Addr) (v : Value) : (w.setCell a v).heap.size = w.heap.size := by simp [World.setCell]
theorem heap_far {w : World} {g x o : Nat} {u : Value} (h : x ≠ g) : (w.setCell ⟨g, o, none⟩ u).heap[x]? = w.heap[x]? := Below.heap_setCell w ⟨g, o, none⟩ u x h
theorem two_old {wr : World} {e n : Obj} {x : Nat} (h : x < wr.heap.size) : ((wr.alloc e).alloc n).heap[x]? = wr.heap[x]? := (heap_alloc_old _ _ (by simp; omega)).trans (heap_alloc_old _ _ h)
theorem two_new {wr : World} {e n : Obj} : ((wr.alloc e).alloc n).heap[wr.heap.size + 1]? = some n := by have := heap_alloc_new (wr.alloc e) n; simpa using this
theorem Below.sets {B : Nat} {a wr : World} (h : Below B a wr) {g o g' o' : Nat} {u u' : Value} (h1 : B ≤ g) (h2 : B ≤ g') : Below B a ((wr.setCell ⟨g, o, none⟩ u).setCell ⟨g', o', none⟩ u') := (h.setCell h1 u).setCell h2 u'

set_option maxHeartbeats 4000000 in
set_option maxRecDepth 100000 in
theorem zzTree_any (v : Value) (l : List NodeA) (w : World) (hv : Tre .u32 w w.heap.size v l) (hs : l.length ≤ 24) (ho : ordered l) (hroot : ∀ k, k < l.length → (parOf l k < 0 ↔ k = 0)) :
    Calls Tryd.prog 32 #[v] w fun e w' => ∃ v', e = .returned v' ∧ TreeOut w.heap.size l v' w' ∧ Below w.heap.size w w' := by
  obtain ⟨A, c, rfl, hcap, hc⟩ := hv
  obtain ⟨i1, hi1, hz10, hz11, hz12⟩ := info_parts infoNP
  have HC := Lib.hid hc
  have HO := Lib.hid ho
  have HR := Lib.hid hroot
  clear hc ho hroot
  go_enter Tryd.func32, Tryd.ntmps32
  go_wp2_with (fail)
  go_loopw [3, 10] (fun v3 v10 wr' => ∃ (k : Nat) (b : Nat → Nat), v10 = .int .i64 k ∧ k ≤ l.length ∧ Below w.heap.size w wr' ∧ Hid (TreeMem 89 w.heap.size l k b wr' ∧ wr'.ownsRow w.heap.size 64 1 v3 k ((List.range k).map fun j => .pointer (some ⟨b j, 0, none⟩))))
    (fun _v3 v10 _wr => l.length - (intOf v10).toNat)
  case atStart =>
    exact ⟨0, fun _ => 0, rfl, Nat.zero_le _, Below.refl _ _, ⟨fun k n hk => by omega, fun k hk => by omega, fun j k hj => by omega⟩, World.ownsRow_nil _ _ _ _⟩
  case round =>
    obtain ⟨k, b, rfl, hk, hb, H⟩ := hrel
    rcases hl : l[k]? with _ | p
    · have hlt : ¬ ((k : Int) < (l.length : Int)) := by rw [List.getElem?_eq_none_iff] at hl; omega
      have hkl : k = l.length := by rw [List.getElem?_eq_none_iff] at hl; omega
      clear hl
      go_wp2_with (fail)
      go_ret
      exact ⟨_, rfl, ⟨b, hkl ▸ H.out.1, hkl ▸ H.out.2⟩, hb⟩
    · have hkl : k < l.length := (List.getElem?_eq_some_iff.1 hl).1
      have hlt : (k : Int) < (l.length : Int) := by omega
      obtain ⟨ad, rfl, hB, h0, h1, h2, h3, h4⟩ := HC.out k p hl
      have d0 := (hb.cell (by rw [add_lt]; exact hB)).trans h0
      have d1 := cell_add1 _ _ _ ((hb.cell (by rw [add_lt]; exact hB)).trans h1)
      have d2 := cell_add2 _ _ _ ((hb.cell (by rw [add_lt]; exact hB)).trans h2)
      have d3 := cell_add3 _ _ _ ((hb.cell (by rw [add_lt]; exact hB)).trans h3)
      obtain ⟨A', c', hav, _, _⟩ := h4
      rw [hav] at d3
      have HV := Lib.hid hav
      have hpar := (getOf hl).1
      have hrk := HR.out k hkl
      rw [hpar] at hrk
      have HL := Lib.hid hl
      have HP := Lib.hid hpar
      obtain ⟨A3, c3, rfl, hc3, hrow⟩ := own_at H.out.2
      have HRow := Lib.hid hrow
      clear hl h0 h1 h2 h3 hav hpar hrow
      by_cases q0 : p.parent < 0
      · have HQ := Lib.hid q0
        have hpk : ∀ j, j < k → parOf l j ≠ parOf l k := by
          intro j hj
          have h1 := (HR.out j (by omega)).1
          have h2 := hrk.1 HQ.out
          omega
        go_wp2_with (first
          | (at_builtin
             refine wpList_append_own _ rfl _ _ 65 rfl w.heap.size 64 i1 _ 1 8 Tryd.underlying65 hi1 hz10 hz11 hz12 rfl (by decide) (.slice A3 k c3) k ((List.range k).map fun j => .pointer (some ⟨b j, 0, none⟩)) rfl ?p9 ⟨wr.heap.size + 2, 0, none⟩ 1 1 [.pointer (some ⟨wr.heap.size + 1, 0, none⟩)] rfl rfl ?p0 ?p1 ?p2 ?p3 ?p4 ?_
             case p9 => exact ((H.out.2.alloc _).alloc _).alloc _
             case p0 => have h := cell_one_new ((wr.alloc (.cells #[.int .i64 p.parent, .int .u32 p.kind, .string p.data, .slice A' p.attrs.length c'] 71)).alloc (.cells #[.pointer none, .pointer none, .pointer none, .pointer none, .pointer none, .int .u32 p.kind, .string p.data, .slice A' p.attrs.length c'] 89)) (.pointer (some ⟨wr.heap.size + 1, 0, none⟩)) 64; simpa using h
             case p1 => intro u hu; simp at hu; subst hu; rfl
             case p2 => unfold maxLen; omega
             case p3 => omega
             case p4 => simp; have := hb.size; omega
             intro v' w' hown' hg' _))
        have hblk : ∀ x, x < wr.heap.size + 2 → (Value.slice A3 k c3).ownBlock ≠ some x → w'.heap[x]? = ((wr.alloc (.cells #[.int .i64 p.parent, .int .u32 p.kind, .string p.data, .slice A' p.attrs.length c'] 71)).alloc (.cells #[.pointer none, .pointer none, .pointer none, .pointer none, .pointer none, .int .u32 p.kind, .string p.data, .slice A' p.attrs.length c'] 89)).heap[x]? := fun x hx hne =>
          (hg'.block x (by simp; omega) (fun e => hne e.symm)).trans (heap_alloc_old _ _ (by simp; omega))
        have hbX : Below w.heap.size w wr := hb
        have hsX : wr.heap.size = wr.heap.size := rfl
        have hbw' := (((hbX.alloc hbX.size (.cells #[.int .i64 p.parent, .int .u32 p.kind, .string p.data, .slice A' p.attrs.length c'] 71)).alloc (by simp; have := hbX.size; omega) (.cells #[.pointer none, .pointer none, .pointer none, .pointer none, .pointer none, .int .u32 p.kind, .string p.data, .slice A' p.attrs.length c'] 89)).alloc (by simp; have := hbX.size; omega) _).grown hg' (by simp; have := hbX.size; omega) (fun g hg => (H.out.2.lt g hg).1)
        have hlk : ∀ j, j < k → ∃ p1 p2 n', b j < wr.heap.size ∧ wr.heap[b j]? = some (.cells (linkCells l b k j n' p1 p2) 89 (0, 0)) := fun j hj => by
          obtain ⟨p1, p2, h2⟩ := H.out.1.lies j _ hj (List.getElem?_eq_getElem (by omega))
          exact ⟨p1, p2, _, H.out.1.lt (by omega) hj, h2⟩
        have hold : ∀ j, j < k → w'.heap[b j]? = wr.heap[b j]? := fun j hj => by
          obtain ⟨p1, p2, n', h1, h2⟩ := hlk j hj
          rw [hblk _ (by omega) (row_ne H.out.2 h2 (by decide)), two_old (by rw [hsX]; exact h1)]
        have hnew : w'.heap[wr.heap.size + 1]? = some (.cells #[.pointer none, .pointer none, .pointer none, .pointer none, .pointer none, .int .u32 p.kind, .string p.data, .slice A' p.attrs.length c'] 89) := by
          rw [hblk _ (by omega) (fun e => by have := (H.out.2.lt _ e).2; omega)]
          have h := two_new (wr := wr) (e := (.cells #[.int .i64 p.parent, .int .u32 p.kind, .string p.data, .slice A' p.attrs.length c'] 71)) (n := (.cells #[.pointer none, .pointer none, .pointer none, .pointer none, .pointer none, .int .u32 p.kind, .string p.data, .slice A' p.attrs.length c'] 89))
          rw [hsX] at h
          exact h
        have hne : ∀ j, j < k → b j ≠ wr.heap.size + 1 := fun j hj => by have := H.out.1.lt (by omega) hj; omega
        refine ⟨⟨k + 1, upd b k (wr.heap.size + 1), by go_num, by omega, hbw', grow_root (pp := .pointer none) (pv := .pointer none) H.out.1 HO.out HL.out (by have := hb.size; omega) hne (by rw [HP.out]; exact HQ.out) hpk (by rw [hnew, newCells, HV.out]) hold, ?_⟩, by simp [intOf]; omega⟩
        rw [List.range_succ, List.map_append, List.map_cons, List.map_nil, upd_new]
        rw [show ((List.range k).map fun j => Value.pointer (some ⟨upd b k (wr.heap.size + 1) j, 0, none⟩)) = (List.range k).map fun j => Value.pointer (some ⟨b j, 0, none⟩) from List.map_congr_left fun j hj => by rw [upd_old (List.mem_range.1 hj)]]
        exact hown'
      · obtain ⟨q, hq⟩ : ∃ q : Nat, p.parent = q := ⟨p.parent.toNat, by omega⟩
        rw [hq] at d0
        have hqk : q < k := by have := HO.out k hkl; rw [HP.out, hq] at this; omega
        have hbq := H.out.1.lt (by omega) hqk
        obtain ⟨n2, hn2⟩ : ∃ n2, l[q]? = some n2 := ⟨_, List.getElem?_eq_getElem (by omega)⟩
        obtain ⟨pp, pv, hcq⟩ := H.out.1.lies q n2 hqk hn2
        obtain ⟨ad3, rfl, hr3, hrq⟩ := HRow.out q hqk
        have hrq2 : ((wr.alloc (.cells #[.int .i64 q, .int .u32 p.kind, .string p.data, .slice A' p.attrs.length c'] 71)).alloc (.cells #[.pointer none, .pointer none, .pointer none, .pointer none, .pointer none, .int .u32 p.kind, .string p.data, .slice A' p.attrs.length c'] 89)).cell? (ad3.add q) = some (.pointer (some ⟨b q, 0, none⟩)) :=
          (World.cell?_alloc_lt _ _ _ (by rw [add_lt]; simp; omega)).trans ((World.cell?_alloc_lt _ _ _ (by rw [add_lt]; exact hr3)).trans hrq)
        have hlast : wr.cell? ⟨b q, 2, none⟩ = some (ptrOf b (lastOf l k q)) := by rw [cell_of_row _ _ _ _ _ _ hcq]; rfl
        have hfq := blk_frozen hcq 2
        have hfq1 := blk_frozen hcq 1
        have HCQ := Lib.hid hcq
        have HPQ := Lib.hid hq
        have hqz : ¬ ((q : Int) < 0) := by omega
        clear hcq hn2 hq q0 hrk hrq
        rcases hlo : lastOf l k q with _ | s
        · rw [hlo] at hlast
          have hlast' : wr.cell? ⟨b q, 2, none⟩ = some (.pointer none) := hlast
          have hf1 : wr.cell? ⟨b q, 1, none⟩ = some (ptrOf b (firstOf l k q)) := by rw [cell_of_row _ _ _ _ _ _ HCQ.out]; rfl
          have HLO := Lib.hid hlo
          clear hlo hlast
          go_wp2_with (first
            | (at_builtin
               refine wpList_append_own _ rfl _ _ 65 rfl w.heap.size 64 i1 _ 1 8 Tryd.underlying65 hi1 hz10 hz11 hz12 rfl (by decide) (.slice (some ad3) k c3) k ((List.range k).map fun j => .pointer (some ⟨b j, 0, none⟩)) rfl ?p9 ⟨wr.heap.size + 2, 0, none⟩ 1 1 [.pointer (some ⟨wr.heap.size + 1, 0, none⟩)] rfl rfl ?p0 ?p1 ?p2 ?p3 ?p4 ?_
               case p9 => exact (((own_keep H.out.2 fun g hg => by have hgq : g ≠ b q := (fun e => by subst e; exact row_ne H.out.2 HCQ.out (by decide) hg); rw [heap_far hgq, heap_far hgq]).alloc _).alloc _).alloc _
               case p0 => have h := cell_one_new ((((wr.setCell ⟨b q, 1, none⟩ (.pointer (some ⟨wr.heap.size + 1, 0, none⟩))).setCell ⟨b q, 2, none⟩ (.pointer (some ⟨wr.heap.size + 1, 0, none⟩))).alloc (.cells #[.int .i64 q, .int .u32 p.kind, .string p.data, .slice A' p.attrs.length c'] 71)).alloc (.cells #[.pointer (some ⟨b q, 0, none⟩), .pointer none, .pointer none, .pointer none, .pointer none, .int .u32 p.kind, .string p.data, .slice A' p.attrs.length c'] 89)) (.pointer (some ⟨wr.heap.size + 1, 0, none⟩)) 64; simpa [scSize] using h
               case p1 => intro u hu; simp at hu; subst hu; rfl
               case p2 => unfold maxLen; omega
               case p3 => omega
               case p4 => simp; have := hb.size; omega
               intro v' w' hown' hg' _))
          have hblk : ∀ x, x < wr.heap.size + 2 → (Value.slice (some ad3) k c3).ownBlock ≠ some x → w'.heap[x]? = ((((wr.setCell ⟨b q, 1, none⟩ (.pointer (some ⟨wr.heap.size + 1, 0, none⟩))).setCell ⟨b q, 2, none⟩ (.pointer (some ⟨wr.heap.size + 1, 0, none⟩))).alloc (.cells #[.int .i64 q, .int .u32 p.kind, .string p.data, .slice A' p.attrs.length c'] 71)).alloc (.cells #[.pointer (some ⟨b q, 0, none⟩), .pointer none, .pointer none, .pointer none, .pointer none, .int .u32 p.kind, .string p.data, .slice A' p.attrs.length c'] 89)).heap[x]? := fun x hx hne =>
            (hg'.block x (by simp; omega) (fun e => hne e.symm)).trans (heap_alloc_old _ _ (by simp; omega))
          have hbX : Below w.heap.size w ((wr.setCell ⟨b q, 1, none⟩ (.pointer (some ⟨wr.heap.size + 1, 0, none⟩))).setCell ⟨b q, 2, none⟩ (.pointer (some ⟨wr.heap.size + 1, 0, none⟩))) := Below.sets hb (H.out.1.base q hqk) (H.out.1.base q hqk)
          have hsX : ((wr.setCell ⟨b q, 1, none⟩ (.pointer (some ⟨wr.heap.size + 1, 0, none⟩))).setCell ⟨b q, 2, none⟩ (.pointer (some ⟨wr.heap.size + 1, 0, none⟩))).heap.size = wr.heap.size := by simp
          have hbw' := (((hbX.alloc hbX.size (.cells #[.int .i64 q, .int .u32 p.kind, .string p.data, .slice A' p.attrs.length c'] 71)).alloc (by simp; have := hbX.size; omega) (.cells #[.pointer (some ⟨b q, 0, none⟩), .pointer none, .pointer none, .pointer none, .pointer none, .int .u32 p.kind, .string p.data, .slice A' p.attrs.length c'] 89)).alloc (by simp; have := hbX.size; omega) _).grown hg' (by simp; have := hbX.size; omega) (fun g hg => (H.out.2.lt g hg).1)
          have hlk : ∀ j, j < k → ∃ p1 p2 n', b j < wr.heap.size ∧ wr.heap[b j]? = some (.cells (linkCells l b k j n' p1 p2) 89 (0, 0)) := fun j hj => by
            obtain ⟨p1, p2, h2⟩ := H.out.1.lies j _ hj (List.getElem?_eq_getElem (by omega))
            exact ⟨p1, p2, _, H.out.1.lt (by omega) hj, h2⟩
          have hold : ∀ j, j < k → w'.heap[b j]? = ((wr.setCell ⟨b q, 1, none⟩ (.pointer (some ⟨wr.heap.size + 1, 0, none⟩))).setCell ⟨b q, 2, none⟩ (.pointer (some ⟨wr.heap.size + 1, 0, none⟩))).heap[b j]? := fun j hj => by
            obtain ⟨p1, p2, n', h1, h2⟩ := hlk j hj
            rw [hblk _ (by omega) (row_ne H.out.2 h2 (by decide)), two_old (by rw [hsX]; exact h1)]
          have hnew : w'.heap[wr.heap.size + 1]? = some (.cells #[.pointer (some ⟨b q, 0, none⟩), .pointer none, .pointer none, .pointer none, .pointer none, .int .u32 p.kind, .string p.data, .slice A' p.attrs.length c'] 89) := by
            rw [hblk _ (by omega) (fun e => by have := (H.out.2.lt _ e).2; omega)]
            have h := two_new (wr := ((wr.setCell ⟨b q, 1, none⟩ (.pointer (some ⟨wr.heap.size + 1, 0, none⟩))).setCell ⟨b q, 2, none⟩ (.pointer (some ⟨wr.heap.size + 1, 0, none⟩)))) (e := (.cells #[.int .i64 q, .int .u32 p.kind, .string p.data, .slice A' p.attrs.length c'] 71)) (n := (.cells #[.pointer (some ⟨b q, 0, none⟩), .pointer none, .pointer none, .pointer none, .pointer none, .int .u32 p.kind, .string p.data, .slice A' p.attrs.length c'] 89))
            rw [hsX] at h
            exact h
          have hne : ∀ j, j < k → b j ≠ wr.heap.size + 1 := fun j hj => by have := H.out.1.lt (by omega) hj; omega
          refine ⟨⟨k + 1, upd b k (wr.heap.size + 1), by go_num, by omega, hbw', grow_none (pp := .pointer (some ⟨b q, 0, none⟩)) (pv := .pointer none) H.out.1 HO.out HL.out (by have := hb.size; omega) hne (by rw [HP.out]; exact HPQ.out) HLO.out (by rw [hnew, newCells, HV.out]) (fun cs h => by rw [hold q hqk]; exact heap_set_same (heap_set_same h 1 _) 2 _) (fun j hj hjq => by rw [hold j hj, heap_far (fun e => hjq (H.out.1.inj j q hj hqk e)), heap_far (fun e => hjq (H.out.1.inj j q hj hqk e))]), ?_⟩, by simp [intOf]; omega⟩
          rw [List.range_succ, List.map_append, List.map_cons, List.map_nil, upd_new]
          rw [show ((List.range k).map fun j => Value.pointer (some ⟨upd b k (wr.heap.size + 1) j, 0, none⟩)) = (List.range k).map fun j => Value.pointer (some ⟨b j, 0, none⟩) from List.map_congr_left fun j hj => by rw [upd_old (List.mem_range.1 hj)]]
          exact hown'
        · have hlast' : wr.cell? ⟨b q, 2, none⟩ = some (.pointer (some ⟨b s, 0, none⟩)) := by rw [hlast, hlo]; rfl
          obtain ⟨hsk, hsq⟩ : s < k ∧ parOf l s = q := by have h := links_some (p := q) (by rw [HP.out, HPQ.out]) hlo; exact ⟨h.1, h.2.1⟩
          have hqs : q ≠ s := by have := HO.out s (by omega); omega
          obtain ⟨n3, hn3⟩ : ∃ n3, l[s]? = some n3 := ⟨_, List.getElem?_eq_getElem (by omega)⟩
          obtain ⟨pp3, pv3, hcs⟩ := H.out.1.lies s n3 hsk hn3
          have hbs := H.out.1.lt (by omega) hsk
          have hf4 : wr.cell? ⟨b s, 4, none⟩ = some (ptrOf b (nextOf l k s)) := by rw [cell_of_row _ _ _ _ _ _ hcs]; rfl
          have hfs := blk_frozen hcs 4
          have HCS := Lib.hid hcs
          have HLO := Lib.hid hlo
          clear hlo hlast hcs hn3 hsq
          go_wp2_with (first
            | (at_builtin
               refine wpList_append_own _ rfl _ _ 65 rfl w.heap.size 64 i1 _ 1 8 Tryd.underlying65 hi1 hz10 hz11 hz12 rfl (by decide) (.slice (some ad3) k c3) k ((List.range k).map fun j => .pointer (some ⟨b j, 0, none⟩)) rfl ?p9 ⟨wr.heap.size + 2, 0, none⟩ 1 1 [.pointer (some ⟨wr.heap.size + 1, 0, none⟩)] rfl rfl ?p0 ?p1 ?p2 ?p3 ?p4 ?_
               case p9 => exact (((own_keep H.out.2 fun g hg => by have hgq : g ≠ b q := (fun e => by subst e; exact row_ne H.out.2 HCQ.out (by decide) hg); have hgs : g ≠ b s := (fun e => by subst e; exact row_ne H.out.2 HCS.out (by decide) hg); rw [heap_far hgq, heap_far hgs]).alloc _).alloc _).alloc _
               case p0 => have h := cell_one_new ((((wr.setCell ⟨b s, 4, none⟩ (.pointer (some ⟨wr.heap.size + 1, 0, none⟩))).setCell ⟨b q, 2, none⟩ (.pointer (some ⟨wr.heap.size + 1, 0, none⟩))).alloc (.cells #[.int .i64 q, .int .u32 p.kind, .string p.data, .slice A' p.attrs.length c'] 71)).alloc (.cells #[.pointer (some ⟨b q, 0, none⟩), .pointer none, .pointer none, .pointer (some ⟨b s, 0, none⟩), .pointer none, .int .u32 p.kind, .string p.data, .slice A' p.attrs.length c'] 89)) (.pointer (some ⟨wr.heap.size + 1, 0, none⟩)) 64; simpa [scSize] using h
               case p1 => intro u hu; simp at hu; subst hu; rfl
               case p2 => unfold maxLen; omega
               case p3 => omega
               case p4 => simp; have := hb.size; omega
               intro v' w' hown' hg' _))
          have hblk : ∀ x, x < wr.heap.size + 2 → (Value.slice (some ad3) k c3).ownBlock ≠ some x → w'.heap[x]? = ((((wr.setCell ⟨b s, 4, none⟩ (.pointer (some ⟨wr.heap.size + 1, 0, none⟩))).setCell ⟨b q, 2, none⟩ (.pointer (some ⟨wr.heap.size + 1, 0, none⟩))).alloc (.cells #[.int .i64 q, .int .u32 p.kind, .string p.data, .slice A' p.attrs.length c'] 71)).alloc (.cells #[.pointer (some ⟨b q, 0, none⟩), .pointer none, .pointer none, .pointer (some ⟨b s, 0, none⟩), .pointer none, .int .u32 p.kind, .string p.data, .slice A' p.attrs.length c'] 89)).heap[x]? := fun x hx hne =>
            (hg'.block x (by simp; omega) (fun e => hne e.symm)).trans (heap_alloc_old _ _ (by simp; omega))
          have hbX : Below w.heap.size w ((wr.setCell ⟨b s, 4, none⟩ (.pointer (some ⟨wr.heap.size + 1, 0, none⟩))).setCell ⟨b q, 2, none⟩ (.pointer (some ⟨wr.heap.size + 1, 0, none⟩))) := Below.sets hb (H.out.1.base s hsk) (H.out.1.base q hqk)
          have hsX : ((wr.setCell ⟨b s, 4, none⟩ (.pointer (some ⟨wr.heap.size + 1, 0, none⟩))).setCell ⟨b q, 2, none⟩ (.pointer (some ⟨wr.heap.size + 1, 0, none⟩))).heap.size = wr.heap.size := by simp
          have hbw' := (((hbX.alloc hbX.size (.cells #[.int .i64 q, .int .u32 p.kind, .string p.data, .slice A' p.attrs.length c'] 71)).alloc (by simp; have := hbX.size; omega) (.cells #[.pointer (some ⟨b q, 0, none⟩), .pointer none, .pointer none, .pointer (some ⟨b s, 0, none⟩), .pointer none, .int .u32 p.kind, .string p.data, .slice A' p.attrs.length c'] 89)).alloc (by simp; have := hbX.size; omega) _).grown hg' (by simp; have := hbX.size; omega) (fun g hg => (H.out.2.lt g hg).1)
          have hlk : ∀ j, j < k → ∃ p1 p2 n', b j < wr.heap.size ∧ wr.heap[b j]? = some (.cells (linkCells l b k j n' p1 p2) 89 (0, 0)) := fun j hj => by
            obtain ⟨p1, p2, h2⟩ := H.out.1.lies j _ hj (List.getElem?_eq_getElem (by omega))
            exact ⟨p1, p2, _, H.out.1.lt (by omega) hj, h2⟩
          have hold : ∀ j, j < k → w'.heap[b j]? = ((wr.setCell ⟨b s, 4, none⟩ (.pointer (some ⟨wr.heap.size + 1, 0, none⟩))).setCell ⟨b q, 2, none⟩ (.pointer (some ⟨wr.heap.size + 1, 0, none⟩))).heap[b j]? := fun j hj => by
            obtain ⟨p1, p2, n', h1, h2⟩ := hlk j hj
            rw [hblk _ (by omega) (row_ne H.out.2 h2 (by decide)), two_old (by rw [hsX]; exact h1)]
          have hnew : w'.heap[wr.heap.size + 1]? = some (.cells #[.pointer (some ⟨b q, 0, none⟩), .pointer none, .pointer none, .pointer (some ⟨b s, 0, none⟩), .pointer none, .int .u32 p.kind, .string p.data, .slice A' p.attrs.length c'] 89) := by
            rw [hblk _ (by omega) (fun e => by have := (H.out.2.lt _ e).2; omega)]
            have h := two_new (wr := ((wr.setCell ⟨b s, 4, none⟩ (.pointer (some ⟨wr.heap.size + 1, 0, none⟩))).setCell ⟨b q, 2, none⟩ (.pointer (some ⟨wr.heap.size + 1, 0, none⟩)))) (e := (.cells #[.int .i64 q, .int .u32 p.kind, .string p.data, .slice A' p.attrs.length c'] 71)) (n := (.cells #[.pointer (some ⟨b q, 0, none⟩), .pointer none, .pointer none, .pointer (some ⟨b s, 0, none⟩), .pointer none, .int .u32 p.kind, .string p.data, .slice A' p.attrs.length c'] 89))
            rw [hsX] at h
            exact h
          have hne : ∀ j, j < k → b j ≠ wr.heap.size + 1 := fun j hj => by have := H.out.1.lt (by omega) hj; omega
          refine ⟨⟨k + 1, upd b k (wr.heap.size + 1), by go_num, by omega, hbw', grow_some (pp := .pointer (some ⟨b q, 0, none⟩)) (pv := .pointer (some ⟨b s, 0, none⟩)) H.out.1 HO.out HL.out (by have := hb.size; omega) hne (by rw [HP.out]; exact HPQ.out) HLO.out (by rw [hnew, newCells, HV.out]) (fun cs h => by rw [hold q hqk]; exact heap_set_same ((heap_far (fun e => hqs (H.out.1.inj q s hqk hsk e))).trans h) 2 _) (fun cs h => by rw [hold s hsk, heap_far (fun e => hqs (H.out.1.inj q s hqk hsk e.symm))]; exact heap_set_same h 4 _) (fun j hj hjq hjs => by rw [hold j hj, heap_far (fun e => hjq (H.out.1.inj j q hj hqk e)), heap_far (fun e => hjs (H.out.1.inj j s hj hsk e))]), ?_⟩, by simp [intOf]; omega⟩
          rw [List.range_succ, List.map_append, List.map_cons, List.map_nil, upd_new]
          rw [show ((List.range k).map fun j => Value.pointer (some ⟨upd b k (wr.heap.size + 1) j, 0, none⟩)) = (List.range k).map fun j => Value.pointer (some ⟨b j, 0, none⟩) from List.map_congr_left fun j hj => by rw [upd_old (List.mem_range.1 hj)]]
          exact hown'
end Go.Proofs.YtoindammaphefaaDoor
