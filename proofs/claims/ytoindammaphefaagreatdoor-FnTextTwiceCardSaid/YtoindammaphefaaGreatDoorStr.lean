/- The walk of the parser's parseString: it reads a text between two quotes, without escapes and line ends. No conditions beside that. -/
import Derived.Test.YtoindammaphefaaGreatDoorName
namespace Go.Proofs.YtoindammaphefaaGreatDoor
open Go.RowKit

/-- A byte that may stand between quotes q as it is. -/
def strB (q c : UInt8) : Prop := ¬ c = q ∧ ¬ c = 92 ∧ ¬ c = 13 ∧ ¬ c = 10 ∧ ¬ c = 12
def StrEnd (body : List UInt8) (g j : Nat) (w : World) (e : Ending) (w' : World) : Prop :=
  ∃ r : ByteArray, e = .returned (.tuple #[.string r, .nilIface]) ∧ r.data.toList = body ∧ Moved w w' g j

theorem u8_ne {a b : UInt8} (h : ¬ a = b) : ((a.toNat : Int) == (b.toNat : Int)) = false := by
  have : ¬ a.toNat = b.toNat := fun e => h (UInt8.toNat_inj.1 e)
  simp
  omega

set_option maxHeartbeats 1000000 in
set_option maxRecDepth 100000 in
theorem parseString_any (g : Nat) (s : ByteArray) (i : Nat) (q : UInt8) (body rest : List UInt8) (w : World) (hs : s.size ≤ 140737488351232)
    (c0 : w.cell? ⟨g, 0, none⟩ = some (.string s)) (c1 : w.cell? ⟨g, 1, none⟩ = some (.int .i64 i)) (f1 : w.frozen? ⟨g, 1, none⟩ = false)
    (hd : s.data.toList.drop i = q :: (body ++ (q :: rest))) (hb : ∀ c ∈ body, strB q c) (hq : strB 0 q) :
    Calls Tryz.prog 50 #[.pointer (some ⟨g, 0, none⟩)] w fun e w' => StrEnd body g (i + body.length + 2) w e w' := by
  have hi : i < s.size := drop_lt hd
  have hci : s[i] = q := drop_get hd hi
  have hd1 := drop_next hd
  have hd2 : s.data.toList.drop (i + 1 + body.length) = q :: rest := drop_add hd1
  have hj : i + 1 + body.length < s.size := drop_lt hd2
  have hcj : s[i + 1 + body.length] = q := drop_get hd2 hj
  have hlt0 : decide ((s.size : Int) < (i : Int) + 2) = false := by simp; omega
  have hlt : (i : Int) < (s.size : Int) := by omega
  have hq92 : ((q.toNat : Int) == 92) = false := u8_ne (b := 92) hq.2.1
  have m0 := Moved.start c1
  have HQ := Lib.hid hcj
  clear hcj
  rcases body with _ | ⟨c, body⟩
  · have hlj : (i : Int) + 1 < (s.size : Int) := by omega
    have hcj : s[i + 1] = q := HQ.out
    go_enter Tryz.func50, Tryz.ntmps50
    go_wp2_with (fail)
    go_step3
    go_wp2_with (fail)
    go_step3
    go_wp2_with (fail)
    refine wp_loop_rounds 3 ?_
    rw [rounds_succ]
    go_wp2_with (fail)
    rw [Exit.noGoto_ret]
    go_ret2
    exact ⟨_, rfl, rfl, m0.set (i + 2)⟩
  · have hlc : (i : Int) + 1 < (s.size : Int) := by omega
    have hi1 : i + 1 < s.size := by omega
    have hcc : s[i + 1] = c := drop_get hd1 hi1
    obtain ⟨k1, k2, k3, k4, k5⟩ := hb c (by simp)
    have b1 : ((c.toNat : Int) == 92) = false := u8_ne (b := 92) k2
    have b2 : ((c.toNat : Int) == (q.toNat : Int)) = false := u8_ne k1
    have b3 : ((c.toNat : Int) == 13) = false := u8_ne (b := 13) k3
    have b4 : ((c.toNat : Int) == 10) = false := u8_ne (b := 10) k4
    have b5 : ((c.toNat : Int) == 12) = false := u8_ne (b := 12) k5
    have hbyte : ∀ j (h : j < s.size), i + 1 ≤ j → j < i + 1 + (c :: body).length → strB q s[j] := fun j h h1 h2 => by
      obtain ⟨m, rfl⟩ : ∃ m, j = i + 1 + m := ⟨j - (i + 1), by omega⟩
      have hm : m < (c :: body).length := by omega
      have hdm : s.data.toList.drop (i + 1 + m) = (c :: body)[m] :: ((c :: body).drop (m + 1) ++ q :: rest) := by
        rw [← List.drop_drop, hd1, List.drop_append_of_le_length (by omega), List.drop_eq_getElem_cons hm]
        rfl
      rw [drop_get hdm h]
      exact hb _ (List.getElem_mem hm)
    have HB := Lib.hid hbyte
    have hex : (s.extract (i + 1) (i + 1 + (c :: body).length)).data.toList = c :: body := extract_of_drop hd1
    have HX := Lib.hid hex
    obtain ⟨E, hE⟩ : ∃ E, E = i + 1 + (c :: body).length := ⟨_, rfl⟩
    have HQ2 : ∀ h : E < s.size, s[E] = q := by subst hE; intro h; exact HQ.out
    have HQ3 := Lib.hid HQ2
    rw [← hE] at HB HX hj
    clear HQ HQ2
    have hiE : i + 1 < E := by rw [hE]; simp
    have hend : i + (c :: body).length + 2 = E + 1 := by omega
    rw [hend]
    have hszE : (E : Int) < (s.size : Int) := by omega
    clear hbyte hex hE hend hd hd1 hd2 hb k1 k2 k3 k4 k5
    go_enter Tryz.func50, Tryz.ntmps50
    go_wp2_with (fail)
    go_step3
    go_wp2_with (fail)
    go_step3
    go_wp2_with (fail)
    refine wp_loop_rounds 3 ?_
    rw [rounds_succ]
    go_wp2_with (fail)
    have HC := Lib.hid (⟨hcc, b1, b2, b3, b4⟩ : s[i + 1] = c ∧ ((c.toNat : Int) == 92) = false ∧ ((c.toNat : Int) == (q.toNat : Int)) = false ∧ ((c.toNat : Int) == 13) = false ∧ ((c.toNat : Int) == 10) = false)
    clear hcc b1 b2 b3 b4 b5
    go_loop [4] (fun v4 => ∃ j : Nat, v4 = .int .i64 j ∧ i + 1 ≤ j ∧ j ≤ E) (fun v4 => E - (intOf v4).toNat)
    case atStart => exact ⟨i + 1, by go_num, Nat.le_refl _, by omega⟩
    case round =>
      obtain ⟨j, rfl, hj1, hj2⟩ := hrel
      have hjs : j < s.size := by omega
      have hjl : (j : Int) < (s.size : Int) := by omega
      by_cases hjE : j < E
      · obtain ⟨g1, g2, g3, g4, g5⟩ := HB.out j hjs hj1 hjE
        have b1 : (((s[j]).toNat : Int) == 92) = false := u8_ne (b := 92) g2
        have b2 : (((s[j]).toNat : Int) == (q.toNat : Int)) = false := u8_ne g1
        have b3 : (((s[j]).toNat : Int) == 13) = false := u8_ne (b := 13) g3
        have b4 : (((s[j]).toNat : Int) == 10) = false := u8_ne (b := 10) g4
        have b5 : (((s[j]).toNat : Int) == 12) = false := u8_ne (b := 12) g5
        clear g1 g2 g3 g4 g5
        go_wp2_with (fail)
        go_round
        case rel => exact ⟨j + 1, by go_num, by omega, by omega⟩
        case measure => simp [intOf]; omega
      · obtain rfl : j = E := by omega
        have hcj : s[j] = q := HQ3.out hjs
        go_wp2_with (fail)
        rw [rounds_succ]
        go_wp2_with (fail)
        rw [Exit.noGoto_ret]
        go_ret2
        exact ⟨_, rfl, by simpa using HX.out, m0.set (j + 1)⟩
end Go.Proofs.YtoindammaphefaaGreatDoor
