/- The walks of writeNodeText, nodeText and nodeOwnText over linked nodes. -/
import Derived.Test.YtoindammaphefaaDoorNLaw
import Derived.Test.YtoindammaphefaaDoorBuf
namespace Go.Proofs.YtoindammaphefaaDoor
open Go.RowKit

theorem bytes_one (l : List UInt8) : ∀ v ∈ Lib.byteCells l, v.oneCell' = true := by
  intro v hv
  simp only [Lib.byteCells, List.mem_map] at hv
  obtain ⟨c, _, rfl⟩ := hv
  rfl
theorem bytes_app (a b : List UInt8) : Lib.byteCells a ++ Lib.byteCells b = Lib.byteCells (a ++ b) := by simp [Lib.byteCells]
/-- Behind a write: the buffer holds the texts, and nothing older has turned. -/
def WroteEnd (B g : Nat) (t : List UInt8) (w : World) (e : Ending) (w' : World) : Prop := e = .returned (.tuple #[]) ∧ Lib.IsBuffer 84 5 B g (Lib.byteCells t) w' ∧ Below B w w'
/-- One more write fits. -/
theorem write_any (B g : Nat) (t : List UInt8) (s : ByteArray) (w : World) (h : Lib.IsBuffer 84 5 B g (Lib.byteCells t) w) (hB : B ≤ w.heap.size) (hl : t.length + s.size ≤ 100000) :
    Calls Tryd.prog 41 #[.pointer (some ⟨g, 0, none⟩), .string s] w fun e w' => e = .returned (.tuple #[.int .i64 s.size, .nilIface]) ∧ Lib.IsBuffer 84 5 B g (Lib.byteCells (t ++ s.data.toList)) w' ∧ Below B w w' :=
  (Tryd.Buffer_WriteString B g _ s w h hB (bytes_one t) (by rw [Lib.byteCells_length]; omega)).mono fun e w' ⟨h1, h2, h3⟩ => ⟨h1, by rw [← bytes_app]; exact h2, h3⟩

theorem ord_next {l : List NodeA} {b : Nat → Nat} {j : Nat} (hi : ∀ i k, i < l.length → k < l.length → b i = b k → i = k) (hj : j < l.length) : ordOf b l.length (ptrOf b (nextOf l l.length j)) < ordOf b l.length (.pointer (some ⟨b j, 0, none⟩)) := by
  rw [ord_ptr hi hj]
  cases h : nextOf l l.length j with
  | none => show 0 < _; omega
  | some i =>
    have h1 := nextOf_some h
    show ordOf b l.length (.pointer (some ⟨b i, 0, none⟩)) < _
    rw [ord_ptr hi h1.2.1]
    omega
set_option maxHeartbeats 4000000 in
set_option maxRecDepth 100000 in
theorem wnt_any (l : List NodeA) (b : Nat → Nat) (B g : Nat) (hF : Fine l) (hi : ∀ i k, i < l.length → k < l.length → b i = b k → i = k) : ∀ (f k : Nat) (t : List UInt8) (w : World), k < l.length → k ≠ 0 → l.length - k ≤ f → Linked l b B w → Lib.IsBuffer 84 5 B g (Lib.byteCells t) w → B ≤ w.heap.size →
    t.length + (text l k).length ≤ 100000 →
    Calls Tryd.prog 39 #[.pointer (some ⟨b k, 0, none⟩), .pointer (some ⟨g, 0, none⟩)] w fun e w' => WroteEnd B g (t ++ text l k) w e w' := by
  intro f
  induction f with
  | zero => intro k t w hk _ hf; omega
  | succ f ih =>
  intro k t w hk hk0 hf hL hbuf hB hsz
  obtain ⟨n, hn⟩ : ∃ n, l[k]? = some n := ⟨_, List.getElem?_eq_getElem hk⟩
  obtain ⟨h0, h1, h4, h5, h6⟩ := hL k n hn
  have hkd := (getOf hn).2.1
  have hdt := (getOf hn).2.2
  have HBuf := Lib.hid hbuf
  have HLk := Lib.hid hL
  by_cases q1 : n.kind = 1
  · have ht : text l k = n.data.data.toList := by rw [text_eq hF.ord hk, if_pos (by rw [hkd, q1]), hdt]
    rw [ht] at hsz ⊢
    rw [q1] at h5
    have hs2 : n.data.size = n.data.data.toList.length := size_of_data rfl
    have HW := Lib.hid (write_any B g t n.data w hbuf hB (by omega))
    clear hbuf hL ih ht hkd hdt hsz
    go_enter Tryd.func39, Tryd.ntmps39
    go_wp2_with (go_at_call 41; refine HW.out.mono ?_; rintro e w2 ⟨rfl, hb2, hw2⟩)
    refine bodyPost_end (results_none rfl _ _ _) rfl ?_
    exact ⟨rfl, hb2, hw2⟩
  by_cases q3 : n.kind = 3
  · rw [q3] at h5
    have HT := Lib.hid (text_eq hF.ord hk)
    rw [hkd, q3, if_neg (by decide)] at HT
    have hp : ∀ j, (fun j => parOf l j == k) j = true → parOf l j = k := fun j h => by simpa using h
    have HA := Lib.hid (first_skip (g := text l) hp)
    have HX := Lib.hid (fun j hj hjk => next_skip (g := text l) (j := j) hp hj hjk)
    have HI := Lib.hid (fun j t w h1 h2 h3 h4 h5 h6 h7 => ih j t w h1 h2 h3 h4 h5 h6 h7)
    have HO := Lib.hid (fun j hj => hF.ord j hj)
    have HN := Lib.hid (fun j hj => ord_next (l := l) (b := b) (j := j) hi hj)
    rw [HT.out] at hsz
    rw [HT.out]
    clear q1 q3 hdt hkd hbuf hL ih hp hi hF
    go_enter Tryd.func39, Tryd.ntmps39
    go_wp2_with (fail)
    go_loopw [4] (fun v4 wr' => ∃ o : Option Nat, v4 = ptrOf b o ∧ Below B w wr' ∧ Hid (Lib.IsBuffer 84 5 B g (Lib.byteCells (t ++ upTo (text l) (fun j => parOf l j == k) (o.getD l.length))) wr') ∧ Hid (∀ j, o = some j → j < l.length ∧ parOf l j = k))
      (fun v4 _wr => ordOf b l.length v4)
    case atStart =>
      refine ⟨firstOf l l.length k, rfl, Below.refl _ _, ?_, fun j hj => ⟨(firstOf_some hj).1, (firstOf_some hj).2.1⟩⟩
      have e : upTo (text l) (fun j => parOf l j == k) ((firstOf l l.length k).getD l.length) = [] := by
        cases h : firstOf l l.length k with
        | none => exact HA.out.1 h
        | some j => exact HA.out.2 j h
      rw [e, List.append_nil]
      exact HBuf.out
    case round =>
      obtain ⟨o, hv, hb, H, HJ⟩ := hrel
      rcases o with _ | j
      · have hv' : u4 = .pointer none := hv
        subst hv'
        clear hv
        go_wp2_with (fail)
        refine bodyPost_end (results_none rfl _ _ _) rfl ?_
        exact ⟨rfl, H.out, hb⟩
      · have hv' : u4 = .pointer (some ⟨b j, 0, none⟩) := hv
        subst hv'
        obtain ⟨hj, hjk⟩ := HJ.out j rfl
        obtain ⟨m, hm⟩ : ∃ m, l[j]? = some m := ⟨_, List.getElem?_eq_getElem hj⟩
        have hLr := HLk.out.below hb
        have hjo := HO.out j hj
        have hBr : B ≤ wr.heap.size := Nat.le_trans hB hb.size
        have hup : (upTo (text l) (fun j => parOf l j == k) (j + 1)).length ≤ (upTo (text l) (fun j => parOf l j == k) l.length).length := upTo_le (by omega)
        have hus := upTo_succ (text l) (fun j => parOf l j == k) j
        rw [if_pos (by simpa using hjk)] at hus
        have HC := Lib.hid (HI.out j (t ++ upTo (text l) (fun j => parOf l j == k) j) wr hj (by omega) (by omega) hLr H.out hBr (by
          rw [hus] at hup
          simp only [List.length_append] at hup ⊢
          omega))
        rw [List.append_assoc, ← hus] at HC
        have HQ := Lib.hid (⟨hm, hjk⟩ : _ ∧ _)
        clear hv hm hjk hLr hjo hup hus
        go_wp2_with (fail)
        refine HC.out.mono ?_
        rintro e w2 ⟨rfl, hb2, hw2⟩
        have hb3 := hb.trans hw2
        have h4' := (HLk.out.below hb3 j m HQ.out.1).2.2.1
        have HB2 := Lib.hid hb2
        clear hb2 hw2
        go_wp2_with (fail)
        refine ⟨⟨nextOf l l.length j, rfl, hb3, ?_, fun i hi => ⟨(nextOf_some hi).2.1, (nextOf_some hi).2.2.1.trans HQ.out.2⟩⟩, HN.out j hj⟩
        have e : upTo (text l) (fun j => parOf l j == k) ((nextOf l l.length j).getD l.length) = upTo (text l) (fun j => parOf l j == k) (j + 1) := by
          cases h : nextOf l l.length j with
          | none => exact (HX.out j hj HQ.out.2).1 h
          | some i => exact (HX.out j hj HQ.out.2).2 i h
        rw [e]
        exact HB2.out
  · have ht := text_leaf hF hk hk0 (by rw [hkd]; exact q1) (by rw [hkd]; exact q3)
    rw [ht, List.append_nil]
    have b1 : (n.kind == 1) = false := by simpa using q1
    have b3 : (n.kind == 3) = false := by simpa using q3
    clear hbuf hL ih ht hkd hdt hsz q1 q3
    go_enter Tryd.func39, Tryd.ntmps39
    go_wp2_with (fail)
    refine bodyPost_end (results_none rfl _ _ _) rfl ?_
    exact ⟨rfl, HBuf.out, Below.refl _ _⟩
end Go.Proofs.YtoindammaphefaaDoor
