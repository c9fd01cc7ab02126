/- The walk of toLowerASCII: a text without capitals comes back as it is. -/
import Derived.Test.YtoindammaphefaaGreatDoorNames
import Derived.Lib.Hide
namespace Go.Proofs.YtoindammaphefaaGreatDoor
open Go.RowKit

def noCap (l : List UInt8) : Prop := ∀ c ∈ l, ¬ (65 ≤ (c.toNat : Int) ∧ (c.toNat : Int) ≤ 90)
set_option maxHeartbeats 1000000 in
set_option maxRecDepth 100000 in
theorem toLower_any (s : ByteArray) (w : World) (hs : s.size ≤ 140737488351232) (h : noCap s.data.toList) :
    Calls Tryz.prog 48 #[.string s] w fun e w' => e = .returned (.string s) ∧ w = w' := by
  go_enter Tryz.func48, Tryz.ntmps48
  go_wp2_with (fail)
  go_loop [3, 4] (fun v3 v4 => ∃ k : Nat, v4 = .int .i64 k ∧ v3 = .slice none 0 0 ∧ k ≤ s.size ∧ Hid (noCap (s.data.toList.drop k)))
    (fun _v3 v4 => s.size - (intOf v4).toNat)
  case atStart => exact ⟨0, rfl, rfl, Nat.zero_le _, h⟩
  case round =>
    obtain ⟨k, rfl, rfl, hk, H⟩ := hrel
    rcases hd : s.data.toList.drop k with _ | ⟨c, r⟩
    · have hlt : ¬ ((k : Int) < (s.size : Int)) := by have := drop_nil hd; omega
      clear hd
      go_wp2_with (fail)
      go_wp2_with (fail)
      go_simp
      rw [run_eql_nil_slice _ _ _ none 0 0 0 0 Tryz.underlying82]
      go_wp2_with (fail)
      go_ret
      exact ⟨rfl, rfl⟩
    · have hk' : k < s.size := drop_lt hd
      have hlt : (k : Int) < (s.size : Int) := by omega
      have hc : s[k] = c := drop_get hd hk'
      have hn : ¬ (65 ≤ (c.toNat : Int) ∧ (c.toNat : Int) ≤ 90) := H.out c (by rw [hd]; simp)
      have HD := Lib.hid hd
      clear hd
      by_cases h1 : 65 ≤ (c.toNat : Int)
      · have h2 : ¬ (c.toNat : Int) ≤ 90 := fun h2 => hn ⟨h1, h2⟩
        clear hn
        go_wp2_with (fail)
        exact ⟨⟨k + 1, by go_num, rfl, by omega, fun d hd => H.out d (by rw [HD.out]; rw [drop_next HD.out] at hd; simp [hd])⟩, by simp [intOf]; omega⟩
      · clear hn
        go_wp2_with (fail)
        exact ⟨⟨k + 1, by go_num, rfl, by omega, fun d hd => H.out d (by rw [HD.out]; rw [drop_next HD.out] at hd; simp [hd])⟩, by simp [intOf]; omega⟩
end Go.Proofs.YtoindammaphefaaGreatDoor
