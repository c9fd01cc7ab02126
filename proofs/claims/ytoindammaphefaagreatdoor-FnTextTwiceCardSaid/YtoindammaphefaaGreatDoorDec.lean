/- Numbers as they are written, in digits, and the walk of the reference's Decimal and Count: they write them. Conditions: -1000 ≤ a, b ≤ 1000. -/
import Derived.Test.YtoindammaphefaaGreatDoorNames
import Derived.Lib.Hide
import Derived.Laws.IdiomStrings
namespace Go.Proofs.YtoindammaphefaaGreatDoor
open Go.RowKit

/-- The digits of n, at most f of them. -/
def decN : Nat → Nat → List UInt8
  | 0, _ => []
  | f + 1, n => (if n < 10 then [] else decN f (n / 10)) ++ [48 + UInt8.ofNat (n % 10)]
def digits (n : Nat) : List UInt8 := decN 5 n
theorem decN_small (f n : Nat) (h : n < 10) : decN (f + 1) n = [48 + UInt8.ofNat (n % 10)] := by simp [decN, h]
theorem decN_big (f n : Nat) (h : 10 ≤ n) : decN (f + 1) n = decN f (n / 10) ++ [48 + UInt8.ofNat (n % 10)] := by simp [decN]; omega

theorem conv_one (w : World) (x : Int) : (convert 82 9 (.slice (some ⟨w.heap.size, 0, none⟩) 1 1)).run Tryz.prog (w.alloc (.cells #[.int .u8 x] 5)) = .ok (.string ⟨#[UInt8.ofNat x.toNat]⟩) (w.alloc (.cells #[.int .u8 x] 5)) := by
  have h := run_convert_bytes_arg (P := Tryz.prog) (w.alloc (.cells #[.int .u8 x] 5)) 82 5 Tryz.underlying82 Tryz.underlying5 w.heap.size 0 1 1 [x] rfl (fun i hi => by
    obtain rfl : i = 0 := by omega
    go_simp) 9 Tryz.underlying9
  exact h

set_option maxHeartbeats 400000 in
theorem decimal_nat (n : Nat) (w : World) (h : n ≤ 99999) :
    Calls Tryz.prog 26 #[.int .i64 n] w fun e w' => ∃ r : ByteArray, e = .returned (.string r) ∧ r.data.toList = digits n ∧ Below w.heap.size w w' := by
  have hcv := conv_one
  go_enter Tryz.func26, Tryz.ntmps26
  go_wp2_with (fail)
  go_loopw [0, 3] (fun v0 v3 wr' => ∃ (f m : Nat) (r : ByteArray), v0 = .int .i64 m ∧ v3 = .string r ∧ r.size ≤ 5 ∧ m ≤ 99999 ∧ Below w.heap.size w wr' ∧ Hid (digits n = decN (f + 1) m ++ r.data.toList ∧ m < 10 ^ (f + 1) ∧ r.size + f < 5)) (fun v0 _ _ => (intOf v0).toNat)
  case atStart => exact ⟨4, n, _, rfl, rfl, by decide, h, Below.refl _ _, by simp [digits], by omega, by decide⟩
  case round =>
    obtain ⟨f, m, r, rfl, rfl, hr5, hm, hb, H⟩ := hrel
    by_cases h10 : m < 10
    · have b1 : ((m : Int) / 10 == 0) = true := by simp; omega
      have hD : digits n = (⟨#[48 + UInt8.ofNat (m % 10)]⟩ ++ r : ByteArray).data.toList := by
        rw [H.out.1, decN_small _ _ h10, append_data]
      have HD := Lib.hid hD
      clear hD
      go_wp2_with (fail)
      go_ret
      exact ⟨_, rfl, HD.out.symm, hb.alloc hb.size _⟩
    · have b1 : ((m : Int) / 10 == 0) = false := by simp; omega
      obtain ⟨g, rfl⟩ : ∃ g, f = g + 1 := by
        cases f with
        | zero => have := H.out.2.1; simp at this; omega
        | succ g => exact ⟨g, rfl⟩
      have hD : digits n = decN (g + 1) (m / 10) ++ (⟨#[48 + UInt8.ofNat (m % 10)]⟩ ++ r : ByteArray).data.toList := by
        rw [H.out.1, decN_big _ _ (by omega), append_data]
        simp
      have hp : m / 10 < 10 ^ (g + 1) := by have := H.out.2.1; rw [Nat.pow_succ] at this; omega
      have HD := Lib.hid (⟨hD, hp, H.out.2.2⟩ : _ ∧ _ ∧ _)
      clear hD hp
      have e1 : (⟨#[48 + UInt8.ofNat (m % 10)]⟩ : ByteArray).size = 1 := rfl
      have e2 : r.size + (g + 1) < 5 := H.out.2.2
      go_wp2_with (fail)
      exact ⟨⟨g, m / 10, _, by go_num, rfl, by rw [ByteArray.size_append, e1]; omega, by omega, hb.alloc hb.size _, HD.out.1, HD.out.2.1, by rw [ByteArray.size_append, e1]; omega⟩, by simp [intOf]; omega⟩

theorem decN_len (f n : Nat) : (decN f n).length ≤ f := by
  induction f generalizing n with
  | zero => simp [decN]
  | succ f ih =>
    have := ih (n / 10)
    by_cases h : n < 10 <;> simp [decN, h] <;> omega
/-- An int as it is written. -/
def decI (x : Int) : List UInt8 := if x < 0 then 45 :: digits (-x).toNat else digits x.toNat
theorem decI_len (x : Int) : (decI x).length ≤ 6 := by
  have h1 := decN_len 5 (-x).toNat
  have h2 := decN_len 5 x.toNat
  unfold decI digits
  split <;> simp <;> omega
theorem decimal_any (x : Int) (w : World) (h1 : -99999 ≤ x) (h2 : x ≤ 99999) :
    Calls Tryz.prog 26 #[.int .i64 x] w fun e w' => ∃ r : ByteArray, e = .returned (.string r) ∧ r.data.toList = decI x ∧ Below w.heap.size w w' := by
  by_cases hx : x < 0
  · have HC := Lib.hid (fun W => decimal_nat (-x).toNat W (by omega))
    have e1 : (((-x).toNat : Nat) : Int) = -x := by omega
    rw [e1] at HC
    have hD : decI x = 45 :: digits (-x).toNat := by simp [decI, hx]
    have HD := Lib.hid hD
    clear hD e1
    go_enter Tryz.func26, Tryz.ntmps26
    go_wp2_with (go_at_call 26; refine (HC.out _).mono ?_; rintro e w2 ⟨r, rfl, hr, hb⟩
                 have hl := decN_len 5 (-x).toNat
                 have hsz := size_of_data hr
                 have hsz2 : r.size ≤ 5 := by rw [hsz]; exact hl
                 have HR := Lib.hid hr
                 clear hr hl hsz)
    go_ret
    exact ⟨_, rfl, by rw [append_data, HR.out, HD.out]; rfl, hb⟩
  · have h := decimal_nat x.toNat w (by omega)
    have e1 : ((x.toNat : Nat) : Int) = x := by omega
    rw [e1] at h
    exact h.mono fun e w' ⟨r, he, hr, hb⟩ => ⟨r, he, by rw [hr]; simp [decI, hx], hb⟩

/-- a times n, and b, as it is written. -/
def countT (a b : Int) : List UInt8 := decI a ++ 110 :: (if b < 0 then decI b else 43 :: decI b)
set_option maxHeartbeats 400000 in
theorem count_any (a b : Int) (w : World) (h1 : -99999 ≤ a) (h2 : a ≤ 99999) (h3 : -99999 ≤ b) (h4 : b ≤ 99999) :
    Calls Tryz.prog 20 #[.int .i64 a, .int .i64 b] w fun e w' => ∃ r : ByteArray, e = .returned (.string r) ∧ r.data.toList = countT a b ∧ Below w.heap.size w w' := by
  have HA := Lib.hid (fun W => decimal_any a W h1 h2)
  have HB := Lib.hid (fun W => decimal_any b W h3 h4)
  by_cases hb0 : b < 0
  · have hT : countT a b = decI a ++ 110 :: decI b := by simp [countT, hb0]
    have HT := Lib.hid hT
    clear hT
    go_enter Tryz.func20, Tryz.ntmps20
    go_wp2_with fail
    refine (HA.out _).mono ?_
    rintro e w1 ⟨r1, rfl, hr1, hb1⟩
    have z1 : r1.size ≤ 6 := by rw [size_of_data hr1]; exact decI_len a
    have HR1 := Lib.hid hr1
    clear hr1
    go_wp2_with fail
    refine (HB.out _).mono ?_
    rintro e w2 ⟨r2, rfl, hr2, hb2⟩
    have z2 : r2.size ≤ 6 := by rw [size_of_data hr2]; exact decI_len b
    have HR2 := Lib.hid hr2
    clear hr2
    have e1 : (⟨#[110]⟩ : ByteArray).size = 1 := rfl
    go_wp2_with fail
    go_ret
    exact ⟨_, rfl, by rw [append_data, append_data, HR1.out, HR2.out, HT.out]; simp, hb1.trans (hb2.mono hb1.size)⟩
  · have hT : countT a b = decI a ++ 110 :: 43 :: decI b := by simp [countT, hb0]
    have HT := Lib.hid hT
    clear hT
    go_enter Tryz.func20, Tryz.ntmps20
    go_wp2_with fail
    refine (HA.out _).mono ?_
    rintro e w1 ⟨r1, rfl, hr1, hb1⟩
    have z1 : r1.size ≤ 6 := by rw [size_of_data hr1]; exact decI_len a
    have HR1 := Lib.hid hr1
    clear hr1
    go_wp2_with fail
    refine (HB.out _).mono ?_
    rintro e w2 ⟨r2, rfl, hr2, hb2⟩
    have z2 : r2.size ≤ 6 := by rw [size_of_data hr2]; exact decI_len b
    have HR2 := Lib.hid hr2
    clear hr2
    have e1 : (⟨#[110, 43]⟩ : ByteArray).size = 2 := rfl
    go_wp2_with fail
    go_ret
    exact ⟨_, rfl, by rw [append_data, append_data, HR1.out, HR2.out, HT.out]; simp, hb1.trans (hb2.mono hb1.size)⟩
end Go.Proofs.YtoindammaphefaaGreatDoor
