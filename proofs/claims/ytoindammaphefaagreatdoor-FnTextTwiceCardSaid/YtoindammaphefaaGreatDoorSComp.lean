/- The walks of String of compound, combined and relative selectors and of groups. -/
import Derived.Test.YtoindammaphefaaGreatDoorSStr
namespace Go.Proofs.YtoindammaphefaaGreatDoor
open Go.RowKit

/-- In every world that is as w is in the blocks of P, and has Itoa's table, String of v is t. -/
def SMeth (w : World) (P : Nat → Prop) (v : Value) (t : List UInt8) : Prop :=
  ∃ T x K u, v = .iface T x ∧ (∀ W, (method 331 T x "String").run Tryz.prog W = .ok (K, u) W) ∧ (∀ W, (callFunc K #[u]).run Tryz.prog W = .ok (.enter K #[u]) W) ∧ ∀ W, Alike P w W → TabZ W → Calls Tryz.prog K #[u] W fun e w' => TxtEnd t W e w'
def RowS {α : Type} (f : α → List UInt8) (w : World) (P : Nat → Prop) (v : Value) (l : List α) : Prop := Row 1 (fun fc a => ∃ x, fc 0 = some x ∧ SMeth w P x (f a)) w P v l
theorem RowS.at {α : Type} {f : α → List UInt8} {w : World} {P : Nat → Prop} {v : Value} {l : List α} (h : RowS f w P v l) {k : Nat} {s : α} (hs : l[k]? = some s) :
    ∃ ad c x, v = .slice (some ad) l.length c ∧ P ad.block ∧ w.cell? (ad.add k) = some x ∧ SMeth w P x (f s) := by
  obtain ⟨A, c, hv, _, hk⟩ := h
  obtain ⟨ad, rfl, hP, x, hx, hm⟩ := hk k s hs
  exact ⟨ad, c, x, hv, hP, by simpa using hx, hm⟩
theorem infoStr : (Tryz.prog.info? 9).map (fun i => (i.zero, i.size, i.bytes)) = some (some (.string ByteArray.empty), 1, 16) := by kernel_rfl
/-- make([]string, n): n cells, whatever they hold. -/
theorem mk_strings (n : Nat) (hn : n ≤ 4) : ∃ cs : Array Value, cs.size = n ∧ ∀ W, (Instr.makeSlice 50 (.int .i64 n) (.int .i64 n)).run Tryz.prog W = .ok (.slice (some ⟨W.heap.size, 0, none⟩) n n) (W.alloc (.cells cs 9)) := by
  obtain ⟨i0, hi, hz0, hz1, hz2⟩ := info_parts infoStr
  refine ⟨madeCells (Value.string ByteArray.empty).cells ((n : Int).toNat * i0.size), by rw [size_madeCells, hz1]; simp, fun W => ?_⟩
  have h := run_make (P := Tryz.prog) W 50 9 i0 _ Tryz.underlying50 hi hz0 .i64 .i64 n n (by omega) (Int.le_refl _) (by rw [hz2]; omega) (by omega)
  simpa using h
theorem set_strings {cs : Array Value} {rs : List ByteArray} {k : Nat} {r : ByteArray} (hk : k < cs.size) (hl : rs.length = k) (h : ∀ (j : Nat) (x : ByteArray), rs[j]? = some x → cs[j]? = some (Value.string x)) :
    ∀ (j : Nat) (x : ByteArray), (rs ++ [r])[j]? = some x → (cs.setIfInBounds k (Value.string r))[j]? = some (Value.string x) := by
  intro j x hx
  by_cases hj : j < k
  · rw [List.getElem?_append_left (by omega)] at hx
    rw [Array.getElem?_setIfInBounds, if_neg (by omega)]
    exact h j x hx
  · have hj2 : j = k := by have := (List.getElem?_eq_some_iff.1 hx).1; simp [hl] at this; omega
    subst hj2
    rw [List.getElem?_append_right (by omega)] at hx
    simp [hl] at hx
    subst hx
    rw [Array.getElem?_setIfInBounds]
    simp [hk]
theorem join_flat : ∀ l : List (List UInt8), Lib.join l [] = l.flatten := by
  intro l
  cases l with
  | nil => rfl
  | cons a l => rw [Lib.join_cons]; simp [Lib.joinTail]
set_option maxHeartbeats 4000000 in
set_option maxRecDepth 100000 in
theorem compS {α : Type} (f : α → List UInt8) (w : World) (P : Nat → Prop) (v : Value) (l : List α) (hr : RowS f w P v l) (hn : (Lib.join (l.map f) []).length ≤ 140737488355328) (hl : l.length ≤ 4) (hl1 : 1 ≤ l.length)
    (W : World) (hP : ∀ b, P b → b < W.heap.size) (hW : Alike P w W) (hT : TabZ W) :
    Calls Tryz.prog 152 #[.agg #[v, .string ByteArray.empty]] W fun e w' => TxtEnd (Lib.join (l.map f) []) W e w' := by
  have HRow := Lib.hid hr
  have HN := Lib.hid hn
  have HPP := Lib.hid hP
  have HWW := Lib.hid hW
  have HT := Lib.hid hT
  have hz0 : ((l.length : Int) == 0) = false := by rw [beq_eq_false_iff_ne]; omega
  obtain ⟨cs0, hcs0, hmk⟩ := mk_strings l.length hl
  obtain ⟨A, c, rfl, hr1, hr2⟩ := hr
  clear hn hP hW hr1 hr2 hT
  go_enter Tryz.func152, Tryz.ntmps152
  go_wp2_with fail
  go_loopw [23] (fun v23 wr' => ∃ (k : Nat) (cs : Array Value) (rs : List ByteArray), v23 = .int .i64 k ∧ k ≤ l.length ∧ Below (W.heap.size + 1) (W.alloc (.cells #[.slice A l.length c, .string ByteArray.empty] 114)) wr' ∧ wr'.heap[W.heap.size + 1]? = some (.cells cs 9 (0, 0)) ∧ cs.size = l.length ∧ rs.length = k
      ∧ Hid (rs.map (·.data.toList) = (l.take k).map f) ∧ Hid (∀ (j : Nat) (x : ByteArray), rs[j]? = some x → cs[j]? = some (Value.string x)))
    (fun v23 _ => l.length - (intOf v23).toNat)
  case atStart =>
    refine ⟨0, cs0, [], rfl, Nat.zero_le _, (Below.refl _ _).alloc (by simp) _, ?_, hcs0, rfl, rfl, Lib.hid (fun j x h => by simp at h)⟩
    have := heap_alloc_new (W.alloc (.cells #[.slice A l.length c, .string ByteArray.empty] 114)) (.cells cs0 9)
    simpa using this
  case round =>
    obtain ⟨k, cs, rs, rfl, hk, hb, hx, hcs, hrs, HM, HC⟩ := hrel
    clear hmk hcs0
    have hgx := blk_lt hx
    have hbw : Below W.heap.size W wr := ((Below.refl _ _).alloc (Nat.le_refl _) _).trans (hb.mono (by omega))
    rcases hs : l[k]? with _ | s
    · have hkl : k = l.length := by rw [List.getElem?_eq_none_iff] at hs; omega
      have hlt : ¬ ((k : Int) < (l.length : Int)) := by omega
      have hm : rs.map (·.data.toList) = l.map f := by rw [HM.out, hkl, List.take_length]
      have hjn := Tryz.strings_Join (W.heap.size + 1) 0 l.length rs ⟨#[]⟩ wr (fun j x h => by rw [Nat.zero_add, cell_of_row _ _ _ _ _ _ hx]; exact HC.out j x h) hgx (by omega) (by omega) (by rw [hm]; exact HN.out)
      rw [hrs, hkl, hm] at hjn
      have HJ := Lib.hid hjn
      have HBW := Lib.hid hbw
      have hx0 : wr.heap[W.heap.size]? = some (.cells #[.slice A l.length c, .string ByteArray.empty] 114 (0, 0)) := (hb.block _ (Nat.lt_succ_self _)).trans (heap_alloc_new W _)
      have HX0 := Lib.hid hx0
      have hgx0 := blk_lt hx0
      clear hs hb hx hbw hm hjn hx0
      go_wp2_with fail
      refine HJ.out.mono ?_
      rintro e w2 ⟨rfl, hb2⟩
      have p1 : w2.cell? ⟨W.heap.size, 1, none⟩ = some (.string ByteArray.empty) := by rw [cell_of_row _ _ _ _ _ _ ((hb2.block _ hgx0).trans HX0.out)]; rfl
      have HB2 := Lib.hid (HBW.out.trans (hb2.mono HBW.out.size))
      clear hb2
      go_wp2_with fail
      go_ret
      exact ⟨_, rfl, by simp, HB2.out⟩
    · have hkl : k < l.length := (List.getElem?_eq_some_iff.1 hs).1
      have hlt : (k : Int) < (l.length : Int) := by omega
      obtain ⟨ad, c', x, hv, hPa, hxc, T, y, K, u, rfl, m1, c1, q1⟩ := HRow.out.at hs
      injection hv with hA _ hcc
      subst hA hcc
      have hal : Alike P w wr := HWW.out.trans (Alike.below hbw HPP.out)
      have e0 : wr.cell? (ad.add k) = some (.iface T y) := (hal.cell (by rw [add_lt]; exact hPa)).trans hxc
      have htz : TabZ wr := HT.out.below hbw
      have Q1 := Lib.hid q1
      have HAL := Lib.hid hal
      have HTZ := Lib.hid htz
      have HX := Lib.hid hx
      have HB := Lib.hid hb
      have htk : (l.take (k + 1)).map f = (l.take k).map f ++ [f s] := by rw [List.take_add_one, hs]; simp
      have HTK := Lib.hid htk
      clear hs hxc hPa q1 hal hx hb hbw htz htk
      go_wp2_with fail
      refine (Q1.out _ HAL.out HTZ.out).mono ?_
      rintro e w2 ⟨r, rfl, hr, hb2⟩
      have hx2 := (hb2.block _ hgx).trans HX.out
      have y0 : w2.cell? ⟨W.heap.size + 1, k, none⟩ = some (cs[k]'(by omega)) := by rw [cell_of_row _ _ _ _ _ _ hx2]; exact Array.getElem?_eq_getElem _
      have y1 := blk_frozen hx2 k
      have HX2 := Lib.hid hx2
      have HB2 := Lib.hid (HB.out.trans (hb2.mono (by omega)))
      have HR := Lib.hid hr
      clear hx2 hb2 hr
      go_wp2_with fail
      go_roundw
      case rel => exact ⟨k + 1, cs.setIfInBounds k (.string r), rs ++ [r], by go_num, by omega, HB2.out.setCell (p := ⟨W.heap.size + 1, k, none⟩) (Nat.le_refl _) _, heap_set_same HX2.out k _, by simpa using hcs, by simp [hrs], Lib.hid (by rw [HTK.out, List.map_append, HM.out]; simp [HR.out]), Lib.hid (set_strings (by omega) hrs HC.out)⟩
      case measure => simp [intOf]; omega
set_option maxHeartbeats 4000000 in
set_option maxRecDepth 100000 in
theorem groupS {α : Type} (f : α → List UInt8) (w : World) (P : Nat → Prop) (v : Value) (l : List α) (hr : RowS f w P v l) (hn : (Lib.join (l.map f) [44, 32]).length ≤ 140737488355328) (hl : l.length ≤ 4) (hl1 : 1 ≤ l.length)
    (W : World) (hP : ∀ b, P b → b < W.heap.size) (hW : Alike P w W) (hT : TabZ W) :
    Calls Tryz.prog 23 #[v] W fun e w' => TxtEnd (Lib.join (l.map f) [44, 32]) W e w' := by
  have HRow := Lib.hid hr
  have HN := Lib.hid hn
  have HPP := Lib.hid hP
  have HWW := Lib.hid hW
  have HT := Lib.hid hT
  have hz0 : ((l.length : Int) == 0) = false := by rw [beq_eq_false_iff_ne]; omega
  obtain ⟨cs0, hcs0, hmk⟩ := mk_strings l.length hl
  obtain ⟨A, c, rfl, hr1, hr2⟩ := hr
  clear hn hP hW hr1 hr2 hT
  go_enter Tryz.func23, Tryz.ntmps23
  go_wp2_with fail
  go_loopw [11] (fun v23 wr' => ∃ (k : Nat) (cs : Array Value) (rs : List ByteArray), v23 = .int .i64 k ∧ k ≤ l.length ∧ Below (W.heap.size) W wr' ∧ wr'.heap[W.heap.size]? = some (.cells cs 9 (0, 0)) ∧ cs.size = l.length ∧ rs.length = k
      ∧ Hid (rs.map (·.data.toList) = (l.take k).map f) ∧ Hid (∀ (j : Nat) (x : ByteArray), rs[j]? = some x → cs[j]? = some (Value.string x)))
    (fun v23 _ => l.length - (intOf v23).toNat)
  case atStart =>
    refine ⟨0, cs0, [], rfl, Nat.zero_le _, (Below.refl _ _).alloc (by simp) _, ?_, hcs0, rfl, rfl, Lib.hid (fun j x h => by simp at h)⟩
    have := heap_alloc_new W (.cells cs0 9)
    simpa using this
  case round =>
    obtain ⟨k, cs, rs, rfl, hk, hb, hx, hcs, hrs, HM, HC⟩ := hrel
    clear hmk hcs0
    have hgx := blk_lt hx
    have hbw : Below W.heap.size W wr := hb
    rcases hs : l[k]? with _ | s
    · have hkl : k = l.length := by rw [List.getElem?_eq_none_iff] at hs; omega
      have hlt : ¬ ((k : Int) < (l.length : Int)) := by omega
      have hm : rs.map (·.data.toList) = l.map f := by rw [HM.out, hkl, List.take_length]
      have hjn := Tryz.strings_Join (W.heap.size) 0 l.length rs ⟨#[44, 32]⟩ wr (fun j x h => by rw [Nat.zero_add, cell_of_row _ _ _ _ _ _ hx]; exact HC.out j x h) hgx (by omega) (by omega) (by rw [hm]; exact HN.out)
      rw [hrs, hkl, hm] at hjn
      have HJ := Lib.hid hjn
      have HBW := Lib.hid hbw
      clear hs hb hx hbw hm hjn
      go_wp2_with fail
      refine HJ.out.mono ?_
      rintro e w2 ⟨rfl, hb2⟩
      have HB2 := Lib.hid (HBW.out.trans (hb2.mono HBW.out.size))
      clear hb2
      go_wp2_with fail
      go_ret
      exact ⟨_, rfl, by simp, HB2.out⟩
    · have hkl : k < l.length := (List.getElem?_eq_some_iff.1 hs).1
      have hlt : (k : Int) < (l.length : Int) := by omega
      obtain ⟨ad, c', x, hv, hPa, hxc, T, y, K, u, rfl, m1, c1, q1⟩ := HRow.out.at hs
      injection hv with hA _ hcc
      subst hA hcc
      have hal : Alike P w wr := HWW.out.trans (Alike.below hbw HPP.out)
      have e0 : wr.cell? (ad.add k) = some (.iface T y) := (hal.cell (by rw [add_lt]; exact hPa)).trans hxc
      have htz : TabZ wr := HT.out.below hbw
      have Q1 := Lib.hid q1
      have HAL := Lib.hid hal
      have HTZ := Lib.hid htz
      have HX := Lib.hid hx
      have HB := Lib.hid hb
      have htk : (l.take (k + 1)).map f = (l.take k).map f ++ [f s] := by rw [List.take_add_one, hs]; simp
      have HTK := Lib.hid htk
      clear hs hxc hPa q1 hal hx hb hbw htz htk
      go_wp2_with fail
      refine (Q1.out _ HAL.out HTZ.out).mono ?_
      rintro e w2 ⟨r, rfl, hr, hb2⟩
      have hx2 := (hb2.block _ hgx).trans HX.out
      have y0 : w2.cell? ⟨W.heap.size, k, none⟩ = some (cs[k]'(by omega)) := by rw [cell_of_row _ _ _ _ _ _ hx2]; exact Array.getElem?_eq_getElem _
      have y1 := blk_frozen hx2 k
      have HX2 := Lib.hid hx2
      have HB2 := Lib.hid (HB.out.trans (hb2.mono (by omega)))
      have HR := Lib.hid hr
      clear hx2 hb2 hr
      go_wp2_with fail
      go_roundw
      case rel => exact ⟨k + 1, cs.setIfInBounds k (.string r), rs ++ [r], by go_num, by omega, HB2.out.setCell (p := ⟨W.heap.size, k, none⟩) (Nat.le_refl _) _, heap_set_same HX2.out k _, by simpa using hcs, by simp [hrs], Lib.hid (by rw [HTK.out, List.map_append, HM.out]; simp [HR.out]), Lib.hid (set_strings (by omega) hrs HC.out)⟩
      case measure => simp [intOf]; omega
set_option maxHeartbeats 4000000 in
set_option maxRecDepth 100000 in
theorem combS_ (w : World) (P : Nat → Prop) (f s : Value) (j : Int) (b : UInt8) (t1 t2 : List UInt8) (hf : SMeth w P f t1) (hs : SMeth w P s t2) (h1 : t1.length ≤ 100000000) (h2 : t2.length ≤ 100000000)
    (hcu : ∀ W, (convert 5 21 (.int .u8 j)).run Tryz.prog W = .ok (.int .i32 j) W) (hcv : ∀ W, (convert 21 9 (.int .i32 j)).run Tryz.prog W = .ok (.string ⟨#[b]⟩) W)
    (W : World) (hP : ∀ b, P b → b < W.heap.size) (hW : Alike P w W) (hT : TabZ W) :
    Calls Tryz.prog 127 #[.agg #[f, .int .u8 j, s]] W fun e w' => TxtEnd (t1 ++ 32 :: b :: 32 :: t2) W e w' := by
  obtain ⟨T, x, K, u, rfl, m1, c1, q1⟩ := hf
  obtain ⟨S, y, L, v, rfl, m2, c2, q2⟩ := hs
  have Q1 := Lib.hid q1
  have Q2 := Lib.hid q2
  have HPP := Lib.hid hP
  have HWW := Lib.hid hW
  have HT := Lib.hid hT
  have HA := Lib.hid (fun o => (Below.refl W.heap.size W).alloc (Nat.le_refl _) o)
  have HL1 := Lib.hid h1
  have HL2 := Lib.hid h2
  clear q1 q2 hP hW hT h1 h2
  go_enter Tryz.func127, Tryz.ntmps127
  go_wp2_with fail
  refine (Q1.out _ (HWW.out.alloc HPP.out _) (HT.out.below (HA.out _))).mono ?_
  rintro e w1 ⟨r1, rfl, hr1, hb1⟩
  have s1 : w1.cell? ⟨W.heap.size, 1, none⟩ = some (.int .u8 j) := ((bcell hb1).1 W.heap.size 1 (by simp)).trans (by go_simp)
  have s2 : w1.cell? ⟨W.heap.size, 2, none⟩ = some (.iface S y) := ((bcell hb1).1 W.heap.size 2 (by simp)).trans (by go_simp)
  have hz1 : W.heap.size < w1.heap.size := by have := hb1.size; simp at this; omega
  have z1 : r1.size ≤ 100000000 := bytes1 hr1 HL1.out
  have hbw := (HA.out _).trans (hb1.mono (by simp))
  have HBW := Lib.hid hbw
  have HAL := Lib.hid (show Alike P w w1.drew from HWW.out.trans (Alike.below hbw HPP.out))
  have HTZ := Lib.hid (show TabZ w1.drew from (HT.out.below hbw).keep fun _ _ => rfl)
  have HR1 := Lib.hid hr1
  clear hr1 hb1 hbw
  go_wp2_with fail
  go_region_held3 (fun W' => W'.cell? ⟨W.heap.size, 1, none⟩ = some (.int .u8 j) ∧ W'.cell? ⟨W.heap.size, 2, none⟩ = some (.iface S y)) (first | exact ⟨s1, s2⟩ | exact ⟨y1, y2⟩ | go_keep) (first
    | (refine (Q2.out _ HAL.out HTZ.out).mono ?_
       rintro e w2 ⟨r2, rfl, hr2, hb2⟩
       have y1 := ((bcell hb2).1 W.heap.size 1 hz1).trans s1
       have y2 := ((bcell hb2).1 W.heap.size 2 hz1).trans s2
       have z2 : r2.size ≤ 100000000 := bytes1 hr2 HL2.out
       have k1 : ¬ (9223372036854775807 : Nat) < 1 + 1 + 1 + r2.size := by omega
       have k2 : ¬ (9223372036854775807 : Nat) < 3 + r2.size := by omega
       have k3 : ¬ (9223372036854775807 : Nat) < 2 + 1 + r2.size := by omega
       have k4 : ¬ (9223372036854775807 : Nat) < r1.size + (1 + 1 + 1 + r2.size) := by omega
       have k5 : ¬ (9223372036854775807 : Nat) < r1.size + (3 + r2.size) := by omega
       have k6 : ¬ (9223372036854775807 : Nat) < r1.size + (2 + 1 + r2.size) := by omega
       have HR2 := Lib.hid hr2
       have HB2 := Lib.hid (HBW.out.trans (Below.undrew (hb2.mono (show W.heap.size ≤ w1.heap.size from Nat.le_of_lt hz1))))
       clear hr2 hb2))
  all_goals
    clear k1 k2 k3 k4 k5 k6
    go_wp2_with fail
    go_ret
    exact ⟨_, rfl, by simp [HR1.out, HR2.out], HB2.out⟩
theorem combS (w : World) (P : Nat → Prop) (f s : Value) (j : Int) (t1 t2 : List UInt8) (hf : SMeth w P f t1) (hs : SMeth w P s t2) (hj : j = 32 ∨ j = 62 ∨ j = 43 ∨ j = 126) (h1 : t1.length ≤ 100000000) (h2 : t2.length ≤ 100000000)
    (W : World) (hP : ∀ b, P b → b < W.heap.size) (hW : Alike P w W) (hT : TabZ W) :
    Calls Tryz.prog 127 #[.agg #[f, .int .u8 j, s]] W fun e w' => TxtEnd (t1 ++ 32 :: UInt8.ofNat j.toNat :: 32 :: t2) W e w' := by
  rcases hj with rfl | rfl | rfl | rfl
  all_goals exact combS_ w P f s _ _ t1 t2 hf hs h1 h2 (fun _ => by kernel_rfl) (fun _ => by kernel_rfl) W hP hW hT
set_option maxHeartbeats 4000000 in
set_option maxRecDepth 100000 in
theorem relS (A : Option Addr) (n c : Nat) (nm : ByteArray) (t : List UInt8) (hnm : nm.size ≤ 100) (ht : t.length ≤ 100000000)
    (W : World) (hC : ∀ W', Below W.heap.size W W' → Calls Tryz.prog 23 #[.slice A n c] W' fun e w' => TxtEnd t W' e w') :
    Calls Tryz.prog 156 #[.agg #[.string nm, .slice A n c]] W fun e w' => TxtEnd (58 :: (nm.data.toList ++ (40 :: (t ++ [41])))) W e w' := by
  have HA := Lib.hid (below_drew ((Below.refl W.heap.size W).alloc (Nat.le_refl _) (.cells #[.string nm, .slice A n c] 121)))
  have HC := Lib.hid hC
  have HL := Lib.hid ht
  have k0 : ¬ (9223372036854775807 : Nat) < 1 + nm.size := by omega
  have k1 : ¬ (9223372036854775807 : Nat) < 1 + nm.size + 1 := by omega
  clear hC ht
  go_enter Tryz.func156, Tryz.ntmps156
  go_wp2_with fail
  go_region_held3 (fun W' => W.heap.size < W'.heap.size ∧ W'.cell? ⟨W.heap.size, 0, none⟩ = some (.string nm) ∧ W'.cell? ⟨W.heap.size, 1, none⟩ = some (.slice A n c)) (first | exact ⟨hlt2, y0, y1⟩ | exact ⟨by simp, by go_simp, by go_simp⟩ | go_keep) (first
    | (go_at_call 23
       refine (HC.out _ HA.out).mono ?_
       rintro e w2 ⟨r2, rfl, hr2, hb2⟩
       have hlt2 : W.heap.size < w2.heap.size := by have h : (W.alloc (.cells #[.string nm, .slice A n c] 121)).heap.size ≤ w2.heap.size := hb2.size; simp at h; omega
       have y0 : w2.cell? ⟨W.heap.size, 0, none⟩ = some (.string nm) := ((bcell hb2).1 W.heap.size 0 (by simp)).trans (by go_simp)
       have y1 : w2.cell? ⟨W.heap.size, 1, none⟩ = some (.slice A n c) := ((bcell hb2).1 W.heap.size 1 (by simp)).trans (by go_simp)
       have z2 : r2.size ≤ 100000000 := bytes1 hr2 HL.out
       have k2 : ¬ (9223372036854775807 : Nat) < 1 + nm.size + 1 + r2.size := by omega
       have k3 : ¬ (9223372036854775807 : Nat) < 1 + nm.size + 1 + r2.size + 1 := by omega
       have HR2 := Lib.hid hr2
       have HB2 := Lib.hid (HA.out.trans (hb2.mono (show W.heap.size ≤ (W.alloc (.cells #[.string nm, .slice A n c] 121)).heap.size by simp)))
       clear hr2 hb2))
  all_goals
    clear k0 k1 k2 k3
    go_wp2_with fail
    go_ret
    exact ⟨_, rfl, by simp [HR2.out], HB2.out⟩
end Go.Proofs.YtoindammaphefaaGreatDoor
