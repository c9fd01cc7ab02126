/- The walk of the parser's parseName: it reads a name, escapes among its bytes, up to what ends it. No conditions beside that. -/
import Derived.Test.YtoindammaphefaaGreatDoorNames
import Derived.Lib.Hide
import Derived.Outline
namespace Go.Proofs.YtoindammaphefaaGreatDoor
open Go.RowKit

def NameEnd (its : List (Bool × UInt8)) (g i : Nat) (w : World) (e : Ending) (w' : World) : Prop :=
  ∃ r : ByteArray, e = .returned (.tuple #[.string r, .nilIface]) ∧ r.data.toList = dec its ∧ Moved w w' g (i + (wrt its).length)

theorem isEmpty_of {r : ByteArray} {l : List UInt8} (h : r.data.toList = l) (hl : l ≠ []) : r.toList = [] ↔ False := by
  rw [ByteArray.toList_eq, h]
  simp [hl]

theorem dec_le (a : List (Bool × UInt8)) : (dec a).length ≤ (wrt a).length := by
  induction a with
  | nil => simp [dec, wrt]
  | cons x a ih => obtain ⟨e, c⟩ := x; cases e <;> simp [dec, wrt] at ih ⊢ <;> omega
theorem plain_len {b1 : List (Bool × UInt8)} (h : plainItems b1) : (wrt b1).length = b1.length := by rw [wr_plain b1 h]; simp [dec]

/-- What a run of bytes that stand for themselves makes of the loop's relation. -/
theorem run_step {s r : ByteArray} {its a b b1 b2 : List (Bool × UInt8)} {rest : List UInt8} {i k j : Nat} {c : UInt8}
    (H : its = a ++ ((false, c) :: b) ∧ r.data.toList = dec a ∧ s.data.toList.drop k = wrt ((false, c) :: b) ++ rest ∧ k = i + (wrt a).length)
    (h : (false, c) :: b = b1 ++ b2 ∧ plainItems b1 ∧ j = k + (wrt b1).length ∧ s.data.toList.drop j = wrt b2 ++ rest) :
    its = (a ++ b1) ++ b2 ∧ (r ++ s.extract k j).data.toList = dec (a ++ b1) ∧ s.data.toList.drop j = wrt b2 ++ rest ∧ j = i + (wrt (a ++ b1)).length := by
  obtain ⟨h1, h2, h3, h4⟩ := H
  obtain ⟨g1, g2, g3, g4⟩ := h
  refine ⟨by rw [h1, g1, List.append_assoc], ?_, g4, by rw [wr_append, List.length_append]; omega⟩
  have e : (s.extract k j).data.toList = wrt b1 := by
    rw [g3]
    refine extract_of_drop (l := wrt b2 ++ rest) ?_
    rw [h3, g1, wr_append, List.append_assoc]
  rw [append_data, h2, e, wr_plain b1 g2]
  simp [dec]
theorem run_pos {b b1 b2 : List (Bool × UInt8)} {c : UInt8} (h : (false, c) :: b = b1 ++ b2) (h2 : ∀ c' l, b2 ≠ (false, c') :: l) (hp : plainItems b1) : 0 < (wrt b1).length := by
  rw [plain_len hp]
  cases b1 with
  | nil => exact absurd h.symm (h2 c b)
  | cons x l => simp
theorem plain_snoc {b1 : List (Bool × UInt8)} {c : UInt8} (h : plainItems b1) : plainItems (b1 ++ [(false, c)]) := by
  intro x hx
  rcases List.mem_append.1 hx with hx | hx
  · exact h x hx
  · simp at hx; subst hx; rfl

/-- What an escape makes of the loop's relation. -/
theorem esc_step {s r : ByteArray} {its a b : List (Bool × UInt8)} {rest : List UInt8} {i k : Nat} {c : UInt8}
    (H : its = a ++ ((true, c) :: b) ∧ r.data.toList = dec a ∧ s.data.toList.drop k = wrt ((true, c) :: b) ++ rest ∧ k = i + (wrt a).length) :
    its = (a ++ [(true, c)]) ++ b ∧ (r ++ s.extract (k + 1) (k + 2)).data.toList = dec (a ++ [(true, c)]) ∧ s.data.toList.drop (k + 2) = wrt b ++ rest ∧ k + 2 = i + (wrt (a ++ [(true, c)])).length := by
  obtain ⟨h1, h2, h3, h4⟩ := H
  have h5 : s.data.toList.drop (k + 1) = [c] ++ (wrt b ++ rest) := drop_next (s := s) (k := k) (c := 92) (by rw [h3]; rfl)
  refine ⟨by rw [h1]; simp, ?_, drop_add (s := s) (k := k) (a := [92, c]) (by rw [h3]; rfl), by rw [wr_append, List.length_append]; simp [wrt]; omega⟩
  have e : (s.extract (k + 1) (k + 1 + [c].length)).data.toList = [c] := extract_of_drop h5
  rw [append_data, h2, show k + 2 = k + 1 + [c].length from rfl, e]
  simp [dec]

set_option maxHeartbeats 1000000 in
set_option maxRecDepth 100000 in
theorem parseName_any (g : Nat) (s : ByteArray) (i : Nat) (its : List (Bool × UInt8)) (rest : List UInt8) (w : World) (hs : s.size ≤ 140737488351232)
    (c0 : w.cell? ⟨g, 0, none⟩ = some (.string s)) (c1 : w.cell? ⟨g, 1, none⟩ = some (.int .i64 i)) (f1 : w.frozen? ⟨g, 1, none⟩ = false)
    (hd : s.data.toList.drop i = wrt its ++ rest) (hok : okItems its) (hst : stops rest) (hne : its ≠ []) :
    Calls Tryz.prog 49 #[.pointer (some ⟨g, 0, none⟩)] w fun e w' => NameEnd its g i w e w' := by
  have hi : i ≤ s.size := by
    rcases Nat.lt_or_ge s.size i with h | h
    · have : s.data.toList.drop i = [] := by apply List.drop_eq_nil_of_le; have e : s.size = s.data.size := rfl; simp; omega
      rw [this] at hd
      cases its with
      | nil => exact absurd rfl hne
      | cons x its => obtain ⟨e, c⟩ := x; cases e <;> simp [wrt] at hd
    · exact h
  have m0 := Moved.start c1
  have HD := Lib.hid hd
  clear hd
  go_enter Tryz.func49, Tryz.ntmps49
  go_wp2_with (fail)
  go_step3
  go_wp2_with (fail)
  go_step3
  go_wp2_with (fail)
  go_loopw [2, 4] (fun v2 v4 wrt' => ∃ (a b : List (Bool × UInt8)) (k : Nat) (r : ByteArray), v4 = .int .i64 k ∧ v2 = .string r ∧ k ≤ s.size ∧ (∃ x : Nat, Moved w wrt' g x) ∧ Hid (its = a ++ b ∧ r.data.toList = dec a ∧ s.data.toList.drop k = wrt b ++ rest ∧ k = i + (wrt a).length))
    (fun _ v4 _ => s.size - (intOf v4).toNat)
  case atStart => exact ⟨[], its, i, _, rfl, rfl, hi, ⟨i, m0⟩, rfl, rfl, HD.out, rfl⟩
  case round =>
    obtain ⟨a, b, k, r, rfl, rfl, hk, ⟨x, mx⟩, H⟩ := hrel
    obtain ⟨d0, d1, df⟩ := mx.facts c0 c1 f1
    clear c0 c1 f1 m0
    have hrs : r.size ≤ k := by
      have h1 := size_of_data H.out.2.1
      have h2 := dec_le a
      have h3 := H.out.2.2.2
      omega
    rcases b with _ | ⟨⟨e, c⟩, b⟩
    · have hre : r.toList.isEmpty = false := by
        have h1 := H.out.2.1
        have h2 : a = its := by have := H.out.1; simp at this; exact this.symm
        rw [ByteArray.toList_eq, h1, h2]
        cases its with
        | nil => exact absurd rfl hne
        | cons y ys => rfl
      have hend : ∀ w' : World, Moved w w' g k → NameEnd its g i w (.returned (.tuple #[.string r, .nilIface])) w' := fun w' hm => by
        have h2 : its = a := by have := H.out.1; simpa using this
        exact ⟨r, rfl, by rw [H.out.2.1, h2], by rw [h2, ← H.out.2.2.2]; exact hm⟩
      have HE := Lib.hid (hend _ (mx.set k))
      clear hend
      rcases rest with _ | ⟨c, rest⟩
      · have hlt : ¬ ((k : Int) < (s.size : Int)) := by
          have := drop_nil (s := s) (k := k) (by rw [H.out.2.2.1]; rfl)
          omega
        go_wp2_with (fail)
        go_ret2
        exact HE.out
      · have hk' : k < s.size := drop_lt (s := s) (k := k) (c := c) (l := rest) (by rw [H.out.2.2.1]; rfl)
        have hlt : (k : Int) < (s.size : Int) := by omega
        have hc : s[k] = c := drop_get (s := s) (k := k) (c := c) (l := rest) (by rw [H.out.2.2.1]; rfl) hk'
        obtain ⟨hn, h92⟩ := hst c rfl
        have h92' : ((c.toNat : Int) == 92) = false := by
          have : ¬ c.toNat = 92 := fun h => h92 (UInt8.toNat_inj.1 h)
          simp; omega
        clear h92
        go_wp2_with (go_at_call 57; refine (nameChar_any _ _).mono ?_; rw [hn]; rintro e w' ⟨rfl, rfl⟩)
        rw [Exit.noGoto_ret]
        go_ret2
        exact HE.out
    · cases e
      · -- a byte that stands for itself: the run of such bytes
        have hk' : k < s.size := drop_lt (s := s) (k := k) (c := c) (l := wrt b ++ rest) (by rw [H.out.2.2.1]; rfl)
        have hlt : (k : Int) < (s.size : Int) := by omega
        have hc : s[k] = c := drop_get (s := s) (k := k) (c := c) (l := wrt b ++ rest) (by rw [H.out.2.2.1]; rfl) hk'
        have hn : nameCharB (c.toNat : Int) = true := by
          have := hok (false, c) (by rw [H.out.1]; simp)
          exact this.2 rfl
        go_wp2_with (go_at_call 57; refine (nameChar_any _ _).mono ?_; rw [hn]; rintro e w' ⟨rfl, rfl⟩)
        have HN := Lib.hid (⟨hn, hc, hlt⟩ : nameCharB (c.toNat : Int) = true ∧ s[k] = c ∧ (k : Int) < (s.size : Int))
        clear hn hc hlt
        go_loop [4] (fun v4 => ∃ (b1 b2 : List (Bool × UInt8)) (j : Nat), v4 = .int .i64 j ∧ j ≤ s.size ∧ k ≤ j ∧ Hid ((false, c) :: b = b1 ++ b2 ∧ plainItems b1 ∧ j = k + (wrt b1).length ∧ s.data.toList.drop j = wrt b2 ++ rest))
          (fun v4 => s.size - (intOf v4).toNat)
        case atStart => exact ⟨[], (false, c) :: b, k, rfl, hk, Nat.le_refl _, rfl, fun _ h => by simp at h, by simp [wrt], H.out.2.2.1⟩
        case round =>
          obtain ⟨b1, b2, j, rfl, hj, hkj, G⟩ := hrel
          rcases b2 with _ | ⟨⟨e2, c2⟩, b2⟩
          · have hpos := run_pos G.out.1 (fun _ _ h => by cases h) G.out.2.1
            have hmv : k < j := by have := G.out.2.2.1; omega
            have hstep := Lib.hid (run_step H.out G.out)
            rcases rest with _ | ⟨c2, rest⟩
            · have hlt : ¬ ((j : Int) < (s.size : Int)) := by
                have := drop_nil (s := s) (k := j) (by rw [G.out.2.2.2]; rfl)
                omega
              go_wp2_with (fail)
              go_roundw
              case rel => exact ⟨a ++ b1, [], j, _, rfl, rfl, hj, ⟨x, mx⟩, hstep.out⟩
              case measure => simp [intOf]; omega
            · have hj' : j < s.size := drop_lt (s := s) (k := j) (c := c2) (l := rest) (by rw [G.out.2.2.2]; rfl)
              have hlt : (j : Int) < (s.size : Int) := by omega
              have hc : s[j] = c2 := drop_get (s := s) (k := j) (c := c2) (l := rest) (by rw [G.out.2.2.2]; rfl) hj'
              obtain ⟨hn, _⟩ := hst c2 rfl
              go_wp2_with (go_at_call 57; refine (nameChar_any _ _).mono ?_; rw [hn]; rintro e w' ⟨rfl, rfl⟩)
              go_roundw
              case rel => exact ⟨a ++ b1, [], j, _, rfl, rfl, hj, ⟨x, mx⟩, hstep.out⟩
              case measure => simp [intOf]; omega
          · have hj' : j < s.size := by
              cases e2
              · exact drop_lt (s := s) (k := j) (c := c2) (l := wrt b2 ++ rest) (by rw [G.out.2.2.2]; rfl)
              · exact drop_lt (s := s) (k := j) (c := 92) (l := c2 :: wrt b2 ++ rest) (by rw [G.out.2.2.2]; rfl)
            have hlt : (j : Int) < (s.size : Int) := by omega
            cases e2
            · have hc : s[j] = c2 := drop_get (s := s) (k := j) (c := c2) (l := wrt b2 ++ rest) (by rw [G.out.2.2.2]; rfl) hj'
              have hn : nameCharB (c2.toNat : Int) = true := by
                have := hok (false, c2) (by rw [H.out.1, G.out.1]; simp)
                exact this.2 rfl
              go_wp2_with (go_at_call 57; refine (nameChar_any _ _).mono ?_; rw [hn]; rintro e w' ⟨rfl, rfl⟩)
              go_round
              case rel =>
                refine ⟨b1 ++ [(false, c2)], b2, j + 1, by go_num, by omega, by omega, ?_, plain_snoc G.out.2.1, ?_, ?_⟩
                · rw [G.out.1]; simp
                · have := G.out.2.2.1; rw [wr_append]; simp [wrt]; omega
                · exact drop_next (s := s) (k := j) (c := c2) (l := wrt b2 ++ rest) (by rw [G.out.2.2.2]; rfl)
              case measure => simp [intOf]; omega
            · have hc : s[j] = 92 := drop_get (s := s) (k := j) (c := 92) (l := c2 :: wrt b2 ++ rest) (by rw [G.out.2.2.2]; rfl) hj'
              have hn : nameCharB ((92 : UInt8).toNat : Int) = false := by decide
              have hpos := run_pos G.out.1 (fun _ _ h => by cases h) G.out.2.1
              have hmv : k < j := by have := G.out.2.2.1; omega
              have hstep := Lib.hid (run_step H.out G.out)
              go_wp2_with (go_at_call 57; refine (nameChar_any _ _).mono ?_; rw [show nameCharB 92 = false by decide]; rintro e w' ⟨rfl, rfl⟩)
              go_roundw
              case rel => exact ⟨a ++ b1, _, j, _, rfl, rfl, hj, ⟨x, mx⟩, hstep.out⟩
              case measure => simp [intOf]; omega
      · -- an escape
        have hd1 : s.data.toList.drop k = 92 :: (c :: (wrt b ++ rest)) := by rw [H.out.2.2.1]; rfl
        have hd2 := drop_next hd1
        have hk' : k < s.size := drop_lt hd1
        have hk2 : k + 1 < s.size := drop_lt hd2
        have hlt : (k : Int) < (s.size : Int) := by omega
        have hc : s[k] = 92 := drop_get hd1 hk'
        have hc2 : s[k + 1] = c := drop_get hd2 hk2
        have hesc : plainEsc (c.toNat : Int) := (hok (true, c) (by rw [H.out.1]; simp)).1 rfl
        have hstep := Lib.hid (esc_step H.out)
        have CE := fun W d0 d1 fz => parseEscape_plain g s k W hk2 hs d0 d1 fz (by rw [hc]; rfl) (by rw [hc2]; exact hesc)
        have HCE := Lib.hid CE
        clear CE hesc hd1 hd2 hc2
        go_wp2_with (first
          | (go_at_call 57; refine (nameChar_any _ _).mono ?_; rw [show nameCharB 92 = false by decide]; rintro e w' ⟨rfl, rfl⟩)
          | (go_at_call 58; refine (HCE.out _ ?_ ?_ ?_).mono ?_; (go_simp); (go_simp); (go_simp); rintro e w2 ⟨rfl, m2⟩
             have m3 := Moved.trans (mx.set k) m2
             obtain ⟨e0, e1, ef⟩ := m2.facts (u := .string s) (v := .int .i64 k) (by go_simp) (by go_simp) (by go_simp)))
        refine ⟨⟨a ++ [(true, c)], b, k + 2, _, by go_num, rfl, by omega, ⟨_, m3⟩, hstep.out⟩, by simp [intOf]; omega⟩
end Go.Proofs.YtoindammaphefaaGreatDoor
