/- The walk of laws.FnParseNth and laws.FnNthWords: they return true for every input. No conditions beside the size that any text has. -/
import Derived.Test.YtoindammaphefaaDoorZZNth
import Derived.Test.YtoindammaphefaaDoorNthZ
import Derived.Test.YtoindammaphefaaDoorNthW
namespace Go.Proofs.YtoindammaphefaaDoor
open Go.RowKit

theorem countT_len (a b : Int) : (countT a b).length ≤ 14 := by
  have h1 := decI_len a
  have h2 := decI_len b
  unfold countT
  split <;> simp <;> omega
set_option maxHeartbeats 4000000 in
set_option maxRecDepth 100000 in
theorem lawParseNth (a b : Int) (s : ByteArray) (w : World) (hs : s.size ≤ 140737488351232) :
    Calls Tryd.prog 8 #[.int .i64 a, .int .i64 b, .string s] w fun e w' => e = .returned (.bool true) ∧ Below w.heap.size w w' := by
  by_cases z1 : 2147483647 < (s.size : Int)
  · go_enter Tryd.func8, Tryd.ntmps8
    go_wp2_with (fail)
    go_ret
    exact ⟨rfl, Below.refl _ _⟩
  by_cases a1 : a < -1000
  · go_enter Tryd.func8, Tryd.ntmps8
    go_wp2_with (fail)
    go_ret
    exact ⟨rfl, Below.refl _ _⟩
  by_cases a2 : 1000 < a
  · go_enter Tryd.func8, Tryd.ntmps8
    go_wp2_with (fail)
    go_ret
    exact ⟨rfl, Below.refl _ _⟩
  by_cases b1 : b < -1000
  · go_enter Tryd.func8, Tryd.ntmps8
    go_wp2_with (fail)
    go_ret
    exact ⟨rfl, Below.refl _ _⟩
  by_cases b2 : 1000 < b
  · go_enter Tryd.func8, Tryd.ntmps8
    go_wp2_with (fail)
    go_ret
    exact ⟨rfl, Below.refl _ _⟩
  by_cases z3 : 40 < (s.size : Int)
  · go_enter Tryd.func8, Tryd.ntmps8
    go_wp2_with (fail)
    go_ret
    exact ⟨rfl, Below.refl _ _⟩
  have fin : noDig s.data.toList → ∀ (r : ByteArray), r.data.toList = countT a b → ∀ W : World, Calls Tryd.prog 19 #[.string (r ++ s)] W fun e w' => e = .returned (.tuple #[.int .i64 a, .int .i64 b, .int .i64 r.size, .bool true]) ∧ Below W.heap.size W w' := by
    intro hnd r hr W
    have hrs := size_of_data hr
    have hl := countT_len a b
    refine nth_any (r ++ s) a b r.size W ?_
    intro g W' c0 c1 f1
    have h := parseNth_count g (r ++ s) 0 a b s.data.toList W' (by rw [ByteArray.size_append]; omega) c0 c1 f1 (by omega) (by omega) (by omega) (by omega) (by rw [List.drop_zero, append_data, hr]) hnd
    rw [Nat.zero_add, ← hrs] at h
    exact h
  have HCnt := Lib.hid (fun W => count_any a b W (by omega) (by omega) (by omega) (by omega))
  have hl := countT_len a b
  rcases hbl : s.data.toList with _ | ⟨c, l⟩
  · have hb0 : s.size = 0 := by rw [size_of_data hbl]; rfl
    have HF := Lib.hid (fin (by rw [hbl]; intro c h; cases h))
    clear fin hbl
    go_enter Tryd.func8, Tryd.ntmps8
    go_wp2_with (fail)
    refine (HCnt.out _).mono ?_
    rintro e w1 ⟨r, rfl, hr, hb⟩
    have hsz : r.size ≤ 14 := by rw [size_of_data hr]; exact hl
    have HR := Lib.hid (HF.out r hr)
    clear hr hl
    go_wp2_with (fail)
    refine (HR.out _).mono ?_
    rintro e w2 ⟨rfl, hb2⟩
    go_wp2_with (fail)
    go_ret
    exact ⟨rfl, hb.trans (hb2.mono hb.size)⟩
  · have hbp : 0 < s.size := by rw [size_of_data hbl]; simp
    have hbp' : (0 : Int) < (s.size : Int) := by omega
    have hb0 : s[0] = c := drop_get (k := 0) (by rw [List.drop_zero]; exact hbl) hbp
    by_cases hc : c = 41
    · subst hc
      have HF := Lib.hid (fin (by rw [hbl]; intro d hd; simp at hd; subst hd; decide))
      clear fin hbl
      go_enter Tryd.func8, Tryd.ntmps8
      go_wp2_with (fail)
      refine (HCnt.out _).mono ?_
      rintro e w1 ⟨r, rfl, hr, hb⟩
      have hsz : r.size ≤ 14 := by rw [size_of_data hr]; exact hl
      have HR := Lib.hid (HF.out r hr)
      clear hr hl
      go_wp2_with (fail)
      refine (HR.out _).mono ?_
      rintro e w2 ⟨rfl, hb2⟩
      go_wp2_with (fail)
      go_ret
      exact ⟨rfl, hb.trans (hb2.mono hb.size)⟩
    · have hne : ((c.toNat : Int) != 41) = true := by
        have := u8_ne' hc
        simpa [bne] using this
      clear fin hbl hc
      go_enter Tryd.func8, Tryd.ntmps8
      go_wp2_with (fail)
      go_ret
      exact ⟨rfl, Below.refl _ _⟩

theorem reads_odd : NthReads ⟨#[111, 100, 100, 41]⟩ 2 1 3 := by
  intro g w c0 c1 f1
  exact parseNth_odd g _ 0 w (by decide) c0 c1 f1 (rest := [41]) rfl (by intro c h; simp at h; subst h; decide)
theorem reads_even : NthReads ⟨#[101, 118, 101, 110, 41]⟩ 2 0 4 := by
  intro g w c0 c1 f1
  exact parseNth_even g _ 0 w (by decide) c0 c1 f1 (rest := [41]) rfl (by intro c h; simp at h; subst h; decide)
theorem reads_n : NthReads ⟨#[110, 41]⟩ 1 0 1 := by
  intro g w c0 c1 f1
  exact parseNth_n g _ 0 [] w (by decide) c0 c1 f1 rfl
theorem reads_num (b : Nat) (hb : b ≤ 1000) (r : ByteArray) (hr : r.data.toList = digits b) : NthReads (r ++ ⟨#[41]⟩) 0 b r.size := by
  intro g w c0 c1 f1
  have hrs := size_of_data hr
  have hl := decN_len 5 b
  have h5 : r.size ≤ 5 := by rw [hrs]; exact hl
  have h := parseNth_num g (r ++ ⟨#[41]⟩) 0 b [] w (by rw [ByteArray.size_append]; have : (⟨#[41]⟩ : ByteArray).size = 1 := rfl; omega) c0 c1 f1 hb (by rw [List.drop_zero, append_data, hr])
  rw [Nat.zero_add, ← hrs] at h
  exact h
set_option maxHeartbeats 4000000 in
set_option maxRecDepth 100000 in
theorem lawNthWords (b : Int) (w : World) :
    Calls Tryd.prog 7 #[.int .i64 b] w fun e w' => e = .returned (.bool true) ∧ Below w.heap.size w w' := by
  by_cases b1 : b < 0
  · go_enter Tryd.func7, Tryd.ntmps7
    go_wp2_with (fail)
    go_ret
    exact ⟨rfl, Below.refl _ _⟩
  by_cases b2 : 1000 < b
  · go_enter Tryd.func7, Tryd.ntmps7
    go_wp2_with (fail)
    go_ret
    exact ⟨rfl, Below.refl _ _⟩
  obtain ⟨n, rfl⟩ : ∃ n : Nat, b = n := ⟨b.toNat, by omega⟩
  have hn : n ≤ 1000 := by omega
  have H1 := Lib.hid (fun W => nth_any _ _ _ _ W reads_odd)
  have H2 := Lib.hid (fun W => nth_any _ _ _ _ W reads_even)
  have H4 := Lib.hid (fun W => nth_any _ _ _ _ W reads_n)
  have H3 := Lib.hid (fun W r hr => nth_any _ _ _ _ W (reads_num n hn r hr))
  have HD := Lib.hid (fun W => decimal_nat n W (by omega))
  have hl : ∀ r : ByteArray, r.data.toList = digits n → r.size ≤ 5 := fun r hr => by rw [size_of_data hr]; exact decN_len 5 n
  have HL := Lib.hid hl
  have HE := Lib.hid (fun (r r' : ByteArray) (h : r.data.toList = digits n) (h' : r'.data.toList = digits n) => eq_of_data (h.trans h'.symm))
  clear hl
  have e1 : (⟨#[41]⟩ : ByteArray).size = 1 := rfl
  go_enter Tryd.func7, Tryd.ntmps7
  go_wp2_with (fail)
  refine (H1.out _).mono ?_
  rintro e w1 ⟨rfl, q1⟩
  go_wp2_with (fail)
  refine (H2.out _).mono ?_
  rintro e w2 ⟨rfl, q2⟩
  go_wp2_with (fail)
  refine (HD.out _).mono ?_
  rintro e w3 ⟨r, rfl, hr, q3⟩
  have hsz := HL.out r hr
  have HR := Lib.hid hr
  clear hr
  go_wp2_with (fail)
  refine (H3.out _ r HR.out).mono ?_
  rintro e w4 ⟨rfl, q4⟩
  go_wp2_with (fail)
  refine (H4.out _).mono ?_
  rintro e w5 ⟨rfl, q5⟩
  go_wp2_with (fail)
  refine (HD.out _).mono ?_
  rintro e w6 ⟨r', rfl, hr', q6⟩
  obtain rfl := HE.out r r' HR.out hr'
  clear hr'
  go_wp2_with (fail)
  go_ret
  have p2 := q1.trans (q2.mono q1.size)
  have p3 := p2.trans (q3.mono p2.size)
  have p4 := p3.trans (q4.mono p3.size)
  have p5 := p4.trans (q5.mono p4.size)
  exact ⟨rfl, p5.trans (q6.mono p5.size)⟩
end Go.Proofs.YtoindammaphefaaDoor
