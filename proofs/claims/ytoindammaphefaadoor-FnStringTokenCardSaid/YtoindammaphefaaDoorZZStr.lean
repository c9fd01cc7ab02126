/- The walks of ZZStringToken, of the thin package's StringToken, and of laws.FnStringToken: the law returns true for every input. No conditions beside the size that any text has. -/
import Derived.Test.YtoindammaphefaaDoorStr
import Derived.Test.YtoindammaphefaaDoorZZIdent
namespace Go.Proofs.YtoindammaphefaaDoor
open Go.RowKit

set_option maxHeartbeats 400000 in
theorem zzStringToken_any (s : ByteArray) (q : UInt8) (body rest : List UInt8) (w : World) (hs : s.size ≤ 140737488351232)
    (hd : s.data.toList = q :: (body ++ (q :: rest))) (hb : ∀ c ∈ body, strB q c) (hq : strB 0 q) :
    Calls Tryd.prog 26 #[.string s] w fun e w' => FrontEnd body (body.length + 2) w e w' := by
  have HC := Lib.hid (fun W d0 d1 fz => parseString_any w.heap.size s 0 q body rest W hs d0 d1 fz (by rw [List.drop_zero]; exact hd) hb hq)
  clear hd hb hq
  go_enter Tryd.func26, Tryd.ntmps26
  go_wp2_with (go_at_call 34; refine (HC.out _ ?_ ?_ ?_).mono ?_; (go_simp); (go_simp); (go_simp); rintro e w2 ⟨r, rfl, hr, hm⟩
               have hb := hm.below ((Below.refl w.heap.size w).alloc (Nat.le_refl _) _) (Nat.le_refl _)
               have hp := hm.pos (v := .int .i64 0) (by go_simp)
               simp only [Nat.zero_add] at hp)
  go_quiet (fail)
  go_wp2_with (fail)
  go_ret3
  exact ⟨r, by rfl, hr, below_drewN' hb _⟩

theorem stringToken_any (s : ByteArray) (q : UInt8) (body rest : List UInt8) (w : World) (hs : s.size ≤ 140737488351232)
    (hd : s.data.toList = q :: (body ++ (q :: rest))) (hb : ∀ c ∈ body, strB q c) (hq : strB 0 q) :
    Calls Tryd.prog 15 #[.string s] w fun e w' => FrontEndOk body (body.length + 2) w e w' := by
  have HC := Lib.hid (zzStringToken_any s q body rest w hs hd hb hq)
  clear hd hb hq
  go_enter Tryd.func15, Tryd.ntmps15
  go_wp2_with (go_at_call 26; refine HC.out.mono ?_; rintro e w2 ⟨r, rfl, hr, hb⟩)
  go_quiet (fail)
  go_wp2_with (fail)
  go_ret3
  exact ⟨r, by rfl, hr, below_drewN' hb _⟩

/-- The bytes that the law lets stand between quotes q. -/
def lawB (q c : UInt8) : Prop := 32 ≤ (c.toNat : Int) ∧ (c.toNat : Int) ≤ 126 ∧ ¬ c = 92 ∧ ¬ c = q
theorem lawB_strB {q c : UInt8} (h : lawB q c) : strB q c := by
  obtain ⟨h1, h2, h3, h4⟩ := h
  refine ⟨h4, h3, ?_, ?_, ?_⟩ <;> (rintro rfl; revert h1; decide)

set_option maxHeartbeats 1000000 in
set_option maxRecDepth 100000 in
theorem lawStringToken_false (s b : ByteArray) (w : World) (hs : s.size ≤ 140737488351232) (hb : b.size ≤ 140737488351232) :
    Calls Tryd.prog 4 #[.string s, .bool false, .string b] w fun e w' => e = .returned (.bool true) ∧ Below w.heap.size w w' := by
  by_cases z1 : 2147483647 < (s.size : Int)
  · go_enter Tryd.func4, Tryd.ntmps4
    go_wp2_with (fail)
    go_ret
    exact ⟨rfl, Below.refl _ _⟩
  by_cases z2 : 2147483647 < (b.size : Int)
  · go_enter Tryd.func4, Tryd.ntmps4
    go_wp2_with (fail)
    go_ret
    exact ⟨rfl, Below.refl _ _⟩
  by_cases z3 : 40 < (s.size : Int)
  · go_enter Tryd.func4, Tryd.ntmps4
    go_wp2_with (fail)
    go_ret
    exact ⟨rfl, Below.refl _ _⟩
  by_cases z4 : 40 < (b.size : Int)
  · go_enter Tryd.func4, Tryd.ntmps4
    go_wp2_with (fail)
    go_ret
    exact ⟨rfl, Below.refl _ _⟩
  have hsz := size_of_data (r := s) rfl
  have HC := Lib.hid (fun (W : World) (h : ∀ c ∈ s.data.toList, lawB 34 c) => stringToken_any (⟨#[34]⟩ ++ s ++ ⟨#[34]⟩ ++ b) 34 s.data.toList b.data.toList W
    (by have e1 : ∀ u : UInt8, (⟨#[u]⟩ : ByteArray).size = 1 := fun _ => rfl
        rw [ByteArray.size_append, ByteArray.size_append, ByteArray.size_append, e1]; omega) (by simp only [append_data]; simp) (fun c hc => lawB_strB (h c hc)) (by unfold strB; decide))
  rw [← hsz] at HC
  clear hsz
  go_enter Tryd.func4, Tryd.ntmps4
  go_wp2_with (fail)
  go_loopw [31] (fun v31 wr' => (∃ k : Nat, v31 = .int .i64 k ∧ k ≤ s.size ∧ Hid (∀ j (h : j < s.size), j < k → lawB 34 s[j])) ∧ ∃ n, wr' = w.drewN n) (fun v31 _ => s.size - (intOf v31).toNat)
  case atStart => exact ⟨⟨0, rfl, Nat.zero_le _, fun j _ h => absurd h (by omega)⟩, 0, rfl⟩
  case round =>
    obtain ⟨⟨k, rfl, hk, H⟩, n, rfl⟩ := hrel
    by_cases hks : k < s.size
    · have hlt : (k : Int) < (s.size : Int) := by omega
      have stepH : lawB 34 s[k] → Hid (∀ j (h : j < s.size), j < k + 1 → lawB 34 s[j]) := fun hl j h hj => by
        by_cases e : j = k
        · subst e; exact hl
        · exact H.out j h (by omega)
      obtain ⟨c, hc⟩ : ∃ c, s[k] = c := ⟨_, rfl⟩
      rw [hc] at stepH
      have HS := Lib.hid stepH
      clear stepH
      by_cases c1 : (c.toNat : Int) < 32
      · go_wp2_with (fail)
        go_quiet (fail)
        go_wp2_with (fail)
        go_ret
        exact ⟨rfl, by repeat (first | exact Below.refl _ _ | apply below_drewN')⟩
      have d1 : decide ((c.toNat : Int) < 32) = false := decide_eq_false c1
      by_cases c2 : 126 < (c.toNat : Int)
      · go_wp2_with (fail)
        go_quiet (fail)
        go_wp2_with (fail)
        go_ret
        exact ⟨rfl, by repeat (first | exact Below.refl _ _ | apply below_drewN')⟩
      have d2 : decide (126 < (c.toNat : Int)) = false := decide_eq_false c2
      by_cases d3' : ((c.toNat : Int) == 92) = true
      · go_wp2_with (fail)
        go_quiet (fail)
        go_wp2_with (fail)
        go_ret
        exact ⟨rfl, by repeat (first | exact Below.refl _ _ | apply below_drewN')⟩
      have d3 : ((c.toNat : Int) == 92) = false := by simpa using d3'
      clear d3'
      have hq0 : (⟨#[34]⟩ : ByteArray)[0] = 34 := rfl
      by_cases d4' : ((c.toNat : Int) == 34) = true
      · go_wp2_with (fail)
        go_quiet (fail)
        go_wp2_with (fail)
        go_ret
        exact ⟨rfl, by repeat (first | exact Below.refl _ _ | apply below_drewN')⟩
      have d4 : ((c.toNat : Int) == 34) = false := by simpa using d4'
      clear d4'
      have hl : lawB 34 c := ⟨by omega, by omega, fun e => by subst e; revert d3; decide, fun e => by subst e; revert d4; decide⟩
      have HS2 := Lib.hid (HS.out hl)
      clear HS hl
      go_wp2_with (fail)
      go_quiet (fail)
      go_wp2_with (fail)
      exact ⟨⟨⟨k + 1, by go_num, by omega, HS2.out⟩, _, rfl⟩, by simp [intOf]; omega⟩
    · have hlt : ¬ (k : Int) < (s.size : Int) := by omega
      have hall : ∀ c ∈ s.data.toList, lawB 34 c := fun c hc => by
        obtain ⟨j, hj, rfl⟩ := List.getElem_of_mem hc
        have e : s.data.toList.length = s.size := (size_of_data rfl).symm
        exact H.out j (by omega) (by omega)
      have HC2 := Lib.hid (fun W => HC.out W hall)
      clear hall HC
      go_wp2_with (go_at_call 15; refine (HC2.out _).mono ?_; rintro e w2 ⟨r, rfl, hr, hb2⟩
                   obtain rfl := eq_of_data hr)
      go_ret
      exact ⟨rfl, Below.trans (below_drewN' (Below.refl _ _) n) hb2⟩

set_option maxHeartbeats 1000000 in
set_option maxRecDepth 100000 in
theorem lawStringToken_true (s b : ByteArray) (w : World) (hs : s.size ≤ 140737488351232) (hb : b.size ≤ 140737488351232) :
    Calls Tryd.prog 4 #[.string s, .bool true, .string b] w fun e w' => e = .returned (.bool true) ∧ Below w.heap.size w w' := by
  by_cases z1 : 2147483647 < (s.size : Int)
  · go_enter Tryd.func4, Tryd.ntmps4
    go_wp2_with (fail)
    go_ret
    exact ⟨rfl, Below.refl _ _⟩
  by_cases z2 : 2147483647 < (b.size : Int)
  · go_enter Tryd.func4, Tryd.ntmps4
    go_wp2_with (fail)
    go_ret
    exact ⟨rfl, Below.refl _ _⟩
  by_cases z3 : 40 < (s.size : Int)
  · go_enter Tryd.func4, Tryd.ntmps4
    go_wp2_with (fail)
    go_ret
    exact ⟨rfl, Below.refl _ _⟩
  by_cases z4 : 40 < (b.size : Int)
  · go_enter Tryd.func4, Tryd.ntmps4
    go_wp2_with (fail)
    go_ret
    exact ⟨rfl, Below.refl _ _⟩
  have hsz := size_of_data (r := s) rfl
  have HC := Lib.hid (fun (W : World) (h : ∀ c ∈ s.data.toList, lawB 39 c) => stringToken_any (⟨#[39]⟩ ++ s ++ ⟨#[39]⟩ ++ b) 39 s.data.toList b.data.toList W
    (by have e1 : ∀ u : UInt8, (⟨#[u]⟩ : ByteArray).size = 1 := fun _ => rfl
        rw [ByteArray.size_append, ByteArray.size_append, ByteArray.size_append, e1]; omega) (by simp only [append_data]; simp) (fun c hc => lawB_strB (h c hc)) (by unfold strB; decide))
  rw [← hsz] at HC
  clear hsz
  go_enter Tryd.func4, Tryd.ntmps4
  go_wp2_with (fail)
  go_loopw [31] (fun v31 wr' => (∃ k : Nat, v31 = .int .i64 k ∧ k ≤ s.size ∧ Hid (∀ j (h : j < s.size), j < k → lawB 39 s[j])) ∧ ∃ n, wr' = w.drewN n) (fun v31 _ => s.size - (intOf v31).toNat)
  case atStart => exact ⟨⟨0, rfl, Nat.zero_le _, fun j _ h => absurd h (by omega)⟩, 0, rfl⟩
  case round =>
    obtain ⟨⟨k, rfl, hk, H⟩, n, rfl⟩ := hrel
    by_cases hks : k < s.size
    · have hlt : (k : Int) < (s.size : Int) := by omega
      have stepH : lawB 39 s[k] → Hid (∀ j (h : j < s.size), j < k + 1 → lawB 39 s[j]) := fun hl j h hj => by
        by_cases e : j = k
        · subst e; exact hl
        · exact H.out j h (by omega)
      obtain ⟨c, hc⟩ : ∃ c, s[k] = c := ⟨_, rfl⟩
      rw [hc] at stepH
      have HS := Lib.hid stepH
      clear stepH
      by_cases c1 : (c.toNat : Int) < 32
      · go_wp2_with (fail)
        go_quiet (fail)
        go_wp2_with (fail)
        go_ret
        exact ⟨rfl, by repeat (first | exact Below.refl _ _ | apply below_drewN')⟩
      have d1 : decide ((c.toNat : Int) < 32) = false := decide_eq_false c1
      by_cases c2 : 126 < (c.toNat : Int)
      · go_wp2_with (fail)
        go_quiet (fail)
        go_wp2_with (fail)
        go_ret
        exact ⟨rfl, by repeat (first | exact Below.refl _ _ | apply below_drewN')⟩
      have d2 : decide (126 < (c.toNat : Int)) = false := decide_eq_false c2
      by_cases d3' : ((c.toNat : Int) == 92) = true
      · go_wp2_with (fail)
        go_quiet (fail)
        go_wp2_with (fail)
        go_ret
        exact ⟨rfl, by repeat (first | exact Below.refl _ _ | apply below_drewN')⟩
      have d3 : ((c.toNat : Int) == 92) = false := by simpa using d3'
      clear d3'
      have hq0 : (⟨#[39]⟩ : ByteArray)[0] = 39 := rfl
      by_cases d4' : ((c.toNat : Int) == 39) = true
      · go_wp2_with (fail)
        go_quiet (fail)
        go_wp2_with (fail)
        go_ret
        exact ⟨rfl, by repeat (first | exact Below.refl _ _ | apply below_drewN')⟩
      have d4 : ((c.toNat : Int) == 39) = false := by simpa using d4'
      clear d4'
      have hl : lawB 39 c := ⟨by omega, by omega, fun e => by subst e; revert d3; decide, fun e => by subst e; revert d4; decide⟩
      have HS2 := Lib.hid (HS.out hl)
      clear HS hl
      go_wp2_with (fail)
      go_quiet (fail)
      go_wp2_with (fail)
      exact ⟨⟨⟨k + 1, by go_num, by omega, HS2.out⟩, _, rfl⟩, by simp [intOf]; omega⟩
    · have hlt : ¬ (k : Int) < (s.size : Int) := by omega
      have hall : ∀ c ∈ s.data.toList, lawB 39 c := fun c hc => by
        obtain ⟨j, hj, rfl⟩ := List.getElem_of_mem hc
        have e : s.data.toList.length = s.size := (size_of_data rfl).symm
        exact H.out j (by omega) (by omega)
      have HC2 := Lib.hid (fun W => HC.out W hall)
      clear hall HC
      go_wp2_with (go_at_call 15; refine (HC2.out _).mono ?_; rintro e w2 ⟨r, rfl, hr, hb2⟩
                   obtain rfl := eq_of_data hr)
      go_ret
      exact ⟨rfl, Below.trans (below_drewN' (Below.refl _ _) n) hb2⟩

theorem lawStringToken (s : ByteArray) (single : Bool) (b : ByteArray) (w : World) (hs : s.size ≤ 140737488351232) (hb : b.size ≤ 140737488351232) :
    Calls Tryd.prog 4 #[.string s, .bool single, .string b] w fun e w' => e = .returned (.bool true) ∧ Below w.heap.size w w' := by
  cases single
  · exact lawStringToken_false s b w hs hb
  · exact lawStringToken_true s b w hs hb
end Go.Proofs.YtoindammaphefaaDoor
