/- The walks of nodeText and nodeOwnText over linked nodes. -/
import Derived.Test.YtoindammaphefaaDoorNText
namespace Go.Proofs.YtoindammaphefaaDoor
open Go.RowKit

/-- What a reader of texts hands back. -/
def TextEnd (t : List UInt8) (w : World) (e : Ending) (w' : World) : Prop := ∃ r : ByteArray, e = .returned (.string r) ∧ r.data.toList = t ∧ Below w.heap.size w w'
set_option maxHeartbeats 4000000 in
set_option maxRecDepth 100000 in
theorem nodeText_any (l : List NodeA) (b : Nat → Nat) (hF : Fine l) (hi : ∀ i k, i < l.length → k < l.length → b i = b k → i = k) (k : Nat) (w : World) (hk : k < l.length) (hk0 : k ≠ 0) (hL : Linked l b w.heap.size w) :
    Calls Tryd.prog 31 #[.pointer (some ⟨b k, 0, none⟩)] w fun e w' => TextEnd (text l k) w e w' := by
  have hts := text_small hF.ord hF.dat hk
  have hlen := hF.len
  have hb1 : Below w.heap.size w (w.alloc (.cells #[.slice none 0 0, .int .i64 0, .int .i8 0] 84)) := (Below.refl _ _).alloc (Nat.le_refl _) _
  have HW := Lib.hid (wnt_any l b w.heap.size w.heap.size hF hi l.length k [] _ hk hk0 (by omega) (hL.below hb1) (Lib.fresh_isBuffer _ _ w) hb1.size (by simp; omega))
  rw [List.nil_append] at HW
  clear hL hF hi hts hlen hk0
  go_enter Tryd.func31, Tryd.ntmps31
  go_wp2_with fail
  refine HW.out.mono ?_
  rintro e w2 ⟨rfl, hbuf, hw2⟩
  have HS := Lib.hid (Tryd.Buffer_String w.heap.size w.heap.size (text l k) w2 hbuf)
  have hb2 := hb1.trans hw2
  clear hbuf hw2
  go_wp2_with fail
  refine HS.out.mono ?_
  rintro e w3 ⟨rfl, q, rfl⟩
  go_wp2_with fail
  go_ret
  exact ⟨_, rfl, rfl, ⟨hb2.os, hb2.tape, hb2.output, hb2.size, hb2.block⟩⟩

set_option maxHeartbeats 4000000 in
set_option maxRecDepth 100000 in
theorem nodeOwnText_any (l : List NodeA) (b : Nat → Nat) (hF : Fine l) (hi : ∀ i k, i < l.length → k < l.length → b i = b k → i = k) (k : Nat) (w : World) (hk : k < l.length) (hL : Linked l b w.heap.size w) :
    Calls Tryd.prog 33 #[.pointer (some ⟨b k, 0, none⟩)] w fun e w' => TextEnd (ownText l k) w e w' := by
  obtain ⟨n, hn⟩ : ∃ n, l[k]? = some n := ⟨_, List.getElem?_eq_getElem hk⟩
  obtain ⟨h0, h1, _h4, _h5, _h6⟩ := hL k n hn
  have hp : ∀ j, (fun j => parOf l j == k && kindOf l j == 1) j = true → parOf l j = k := fun j h => by
    simp only [Bool.and_eq_true, beq_iff_eq] at h
    exact h.1
  have HA := Lib.hid (first_skip (g := datOf l) hp)
  have HX := Lib.hid (fun j hj hjk => next_skip (g := datOf l) (j := j) hp hj hjk)
  have HN := Lib.hid (fun j hj => ord_next (l := l) (b := b) (j := j) hi hj)
  have hts := ownText_small hF.dat k
  have hlen := hF.len
  have HD := Lib.hid (fun j n (h : l[j]? = some n) (h1 : n.kind = 1) => hF.toSane.data h h1)
  have hb1 : Below w.heap.size w (w.alloc (.cells #[.slice none 0 0, .int .i64 0, .int .i8 0] 84)) := (Below.refl _ _).alloc (Nat.le_refl _) _
  have HLk := Lib.hid hL
  have HBuf := Lib.hid (Lib.fresh_isBuffer 84 5 w)
  have HUL := Lib.hid (fun j (hj : j ≤ l.length) => (upTo_le (g := datOf l) (p := fun j => parOf l j == k && kindOf l j == 1) hj))
  clear hL hF hi hp _h4 _h5 _h6 hn
  go_enter Tryd.func33, Tryd.ntmps33
  go_wp2_with fail
  go_loopw [4] (fun v4 wr' => ∃ o : Option Nat, v4 = ptrOf b o ∧ Below w.heap.size w wr' ∧ Hid (Lib.IsBuffer 84 5 w.heap.size w.heap.size (Lib.byteCells (upTo (datOf l) (fun j => parOf l j == k && kindOf l j == 1) (o.getD l.length))) wr') ∧ Hid (∀ j, o = some j → j < l.length ∧ parOf l j = k))
    (fun v4 _wr => ordOf b l.length v4)
  case atStart =>
    refine ⟨firstOf l l.length k, rfl, hb1, ?_, fun j hj => ⟨(firstOf_some hj).1, (firstOf_some hj).2.1⟩⟩
    have e : upTo (datOf l) (fun j => parOf l j == k && kindOf l j == 1) ((firstOf l l.length k).getD l.length) = [] := by
      cases h : firstOf l l.length k with
      | none => exact HA.out.1 h
      | some j => exact HA.out.2 j h
    rw [e]
    exact HBuf.out
  case round =>
    obtain ⟨o, hv, hb, H, HJ⟩ := hrel
    rcases o with _ | j
    · have hv' : u4 = .pointer none := hv
      subst hv'
      have HS := Lib.hid (Tryd.Buffer_String w.heap.size w.heap.size _ wr H.out)
      clear hv
      go_wp2_with (go_at_call 40; refine HS.out.mono ?_; rintro e w3 ⟨rfl, q, rfl⟩)
      go_ret
      exact ⟨_, rfl, rfl, ⟨hb.os, hb.tape, hb.output, hb.size, hb.block⟩⟩
    · have hv' : u4 = .pointer (some ⟨b j, 0, none⟩) := hv
      subst hv'
      obtain ⟨hj, hjk⟩ := HJ.out j rfl
      obtain ⟨m, hm⟩ : ∃ m, l[j]? = some m := ⟨_, List.getElem?_eq_getElem hj⟩
      obtain ⟨i0, i1, i4, i5, i6⟩ := HLk.out.below hb j m hm
      have hup := HUL.out j (by omega)
      have hus := upTo_succ (datOf l) (fun j => parOf l j == k && kindOf l j == 1) j
      have e : upTo (datOf l) (fun j => parOf l j == k && kindOf l j == 1) ((nextOf l l.length j).getD l.length) = upTo (datOf l) (fun j => parOf l j == k && kindOf l j == 1) (j + 1) := by
        cases h : nextOf l l.length j with
        | none => exact (HX.out j hj hjk).1 h
        | some i => exact (HX.out j hj hjk).2 i h
      have HE := Lib.hid e
      have hj2 : ∀ i, nextOf l l.length j = some i → i < l.length ∧ parOf l i = k := fun i hi => ⟨(nextOf_some hi).2.1, (nextOf_some hi).2.2.1.trans hjk⟩
      have HJ2 := Lib.hid hj2
      have hkd := (getOf hm).2.1
      have hdt := (getOf hm).2.2
      by_cases q1 : m.kind = 1
      · rw [if_pos (by simp [hjk, hkd, q1]), hdt] at hus
        have hBr := hb.size
        have hmd := HD.out j m hm q1
        unfold ownText at hts
        have HC := Lib.hid (write_any w.heap.size w.heap.size (upTo (datOf l) (fun j => parOf l j == k && kindOf l j == 1) j) m.data wr H.out hBr (by omega))
        rw [← hus] at HC
        rw [q1] at i5
        have HQ := Lib.hid hm
        clear hv hm hjk hup hus e hj2 hkd hdt
        go_wp2_with (go_at_call 41; refine HC.out.mono ?_; rintro e w2 ⟨rfl, hb2, hw2⟩
                     have hb3 := hb.trans hw2
                     have h4' := (HLk.out.below hb3 j m HQ.out).2.2.1)
        refine ⟨⟨nextOf l l.length j, rfl, hb3, ?_, HJ2.out⟩, HN.out j hj⟩
        rw [HE.out]
        exact hb2
      · rw [if_neg (by simp [hkd, q1]), List.append_nil] at hus
        have b1 : (m.kind == 1) = false := by simpa using q1
        have HU := Lib.hid hus
        clear hv hm hjk hup hus e hj2 hkd hdt q1
        go_wp2_with fail
        refine ⟨⟨nextOf l l.length j, rfl, hb, ?_, HJ2.out⟩, HN.out j hj⟩
        rw [HE.out, HU.out]
        exact H.out
end Go.Proofs.YtoindammaphefaaDoor
