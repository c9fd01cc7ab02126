/- The walk of the reference's Name: it answers whether a text is a name of at most twelve small letters, figures and dashes that begins with a letter. No conditions beside the size that any text has. -/
import Derived.Test.YtoindammaphefaaGreatDoorNames
import Derived.Lib.Hide
namespace Go.Proofs.YtoindammaphefaaGreatDoor
open Go.RowKit

def smallB (c : UInt8) : Bool := decide (97 ≤ (c.toNat : Int) ∧ (c.toNat : Int) ≤ 122)
def okAt (k : Nat) (c : UInt8) : Bool := decide (97 ≤ (c.toNat : Int) ∧ (c.toNat : Int) ≤ 122 ∨ k ≠ 0 ∧ (48 ≤ (c.toNat : Int) ∧ (c.toNat : Int) ≤ 57 ∨ (c.toNat : Int) = 45))
def goodFrom (k : Nat) : List UInt8 → Bool
  | [] => true
  | c :: r => okAt k c && goodFrom (k + 1) r
def nameOK (l : List UInt8) : Bool := goodFrom 0 l && (decide (l ≠ []) && decide (l.length ≤ 12))

theorem good_step {l : List UInt8} {k : Nat} {c : UInt8} {r : List UInt8} (h : goodFrom 0 l = goodFrom k (c :: r)) (hc : okAt k c = true) : goodFrom 0 l = goodFrom (k + 1) r := by
  rw [h, goodFrom, hc]; rfl
theorem good_stop {l : List UInt8} {k : Nat} {c : UInt8} {r : List UInt8} (h : goodFrom 0 l = goodFrom k (c :: r)) (hc : okAt k c = false) : nameOK l = false := by
  rw [nameOK, h, goodFrom, hc]; rfl
theorem good_end {l : List UInt8} {k : Nat} (h : goodFrom 0 l = goodFrom k []) : nameOK l = (decide (l ≠ []) && decide (l.length ≤ 12)) := by
  rw [nameOK, h]; simp [goodFrom]

set_option maxHeartbeats 1000000 in
set_option maxRecDepth 100000 in
theorem name_any (s : ByteArray) (w : World) (hs : s.size ≤ 140737488351232) :
    Calls Tryz.prog 16 #[.string s] w fun e w' => e = .returned (.bool (nameOK s.data.toList)) ∧ w = w' := by
  go_enter Tryz.func16, Tryz.ntmps16
  go_wp2_with (fail)
  go_loop [7] (fun v7 => ∃ k : Nat, v7 = .int .i64 k ∧ k ≤ s.size ∧ Hid (goodFrom 0 s.data.toList = goodFrom k (s.data.toList.drop k)))
    (fun v7 => s.size - (intOf v7).toNat)
  case atStart => exact ⟨0, rfl, Nat.zero_le _, rfl⟩
  case round =>
    obtain ⟨k, rfl, hk, H⟩ := hrel
    rcases hd : s.data.toList.drop k with _ | ⟨c, r⟩
    · have hlt : ¬ ((k : Int) < (s.size : Int)) := by have := drop_nil hd; omega
      have hE : goodFrom 0 s.data.toList = goodFrom k [] := by rw [← hd]; exact H.out
      have hfin := Lib.hid (good_end hE)
      have hsz : s.size = s.data.toList.length := size_of_data rfl
      have hsz2 := Lib.hid hsz
      clear hd hE hsz
      go_wp2_with (fail)
      · go_ret
        have he : s.toList = [] := by assumption
        exact ⟨ret_bool (by rw [hfin.out, ← ByteArray.toList_eq, he]; rfl), rfl⟩
      · go_ret
        exact ⟨ret_bool (by rw [hfin.out, ByteArray.toList_eq, hsz2.out]; cases s.data.toList <;> simp <;> omega), rfl⟩
    · have hk' : k < s.size := drop_lt hd
      have hlt : (k : Int) < (s.size : Int) := by omega
      have hc : s[k] = c := drop_get hd hk'
      have hE : goodFrom 0 s.data.toList = goodFrom k (c :: r) := by rw [← hd]; exact H.out
      have H2 := Lib.hid hE
      have HD := Lib.hid hd
      clear hd hE
      have hcases : (97 ≤ (c.toNat : Int) ∧ (c.toNat : Int) ≤ 122) ∨ (k = 0 ∧ (c.toNat : Int) < 97) ∨ (k = 0 ∧ 122 < (c.toNat : Int)) ∨ (k ≠ 0 ∧ (c.toNat : Int) < 48 ∧ (c.toNat : Int) ≠ 45) ∨ (k ≠ 0 ∧ (c.toNat : Int) < 48 ∧ (c.toNat : Int) = 45)
          ∨ (k ≠ 0 ∧ 48 ≤ (c.toNat : Int) ∧ (c.toNat : Int) ≤ 57) ∨ (k ≠ 0 ∧ 57 < (c.toNat : Int) ∧ (c.toNat : Int) < 97) ∨ (k ≠ 0 ∧ 122 < (c.toNat : Int)) := by omega
      rcases hcases with ⟨h1, h2⟩ | ⟨h1, h2⟩ | ⟨h1, h2⟩ | ⟨h1, h2, h3⟩ | ⟨h1, h2, h3⟩ | ⟨h1, h2, h3⟩ | ⟨h1, h2, h3⟩ | ⟨h1, h2⟩
      · have G := Lib.hid (decide_eq_true (by omega) : okAt k c = true)
        go_wp2_with (fail)
        refine ⟨⟨k + 1, by go_num, by omega, ?_⟩, by simp [intOf]; omega⟩
        rw [drop_next HD.out]; exact good_step H2.out G.out
      · subst h1
        have G := Lib.hid (decide_eq_false (by omega) : okAt 0 c = false)
        go_wp2_with (fail)
        go_ret
        exact ⟨ret_bool (good_stop H2.out G.out).symm, rfl⟩
      · subst h1
        have G := Lib.hid (decide_eq_false (by omega) : okAt 0 c = false)
        have b3 : decide ((c.toNat : Int) ≤ 122) = false := decide_eq_false (by omega)
        go_wp2_with (fail)
        go_ret
        exact ⟨ret_bool (good_stop H2.out G.out).symm, rfl⟩
      · have G := Lib.hid (decide_eq_false (by omega) : okAt k c = false)
        have b0 : ((k : Int) == 0) = false := by simp; omega
        have b1 : ((c.toNat : Int) == 45) = false := by simp; omega
        have b2 : ((c.toNat : Int) != 45) = true := by simp; omega
        clear h3
        go_wp2_with (fail)
        go_ret
        exact ⟨ret_bool (good_stop H2.out G.out).symm, rfl⟩
      · have G := Lib.hid (decide_eq_true (by omega) : okAt k c = true)
        have b0 : ((k : Int) == 0) = false := by simp; omega
        go_wp2_with (fail)
        refine ⟨⟨k + 1, by go_num, by omega, ?_⟩, by simp [intOf]; omega⟩
        rw [drop_next HD.out]; exact good_step H2.out G.out
      · have G := Lib.hid (decide_eq_true (by omega) : okAt k c = true)
        have b0 : ((k : Int) == 0) = false := by simp; omega
        go_wp2_with (fail)
        refine ⟨⟨k + 1, by go_num, by omega, ?_⟩, by simp [intOf]; omega⟩
        rw [drop_next HD.out]; exact good_step H2.out G.out
      · have G := Lib.hid (decide_eq_false (by omega) : okAt k c = false)
        have b0 : ((k : Int) == 0) = false := by simp; omega
        have b2 : ((c.toNat : Int) != 45) = true := by simp; omega
        go_wp2_with (fail)
        go_ret
        exact ⟨ret_bool (good_stop H2.out G.out).symm, rfl⟩
      · have G := Lib.hid (decide_eq_false (by omega) : okAt k c = false)
        have b0 : ((k : Int) == 0) = false := by simp; omega
        have b2 : ((c.toNat : Int) != 45) = true := by simp; omega
        have b3 : decide ((c.toNat : Int) ≤ 122) = false := decide_eq_false (by omega)
        go_wp2_with (fail)
        go_ret
        exact ⟨ret_bool (good_stop H2.out G.out).symm, rfl⟩
end Go.Proofs.YtoindammaphefaaGreatDoor
