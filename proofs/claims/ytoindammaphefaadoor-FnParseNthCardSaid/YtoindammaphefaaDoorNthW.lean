/- The walk of parseNth at a word: odd, even. -/
import Derived.Test.YtoindammaphefaaDoorNth
import Derived.Test.YtoindammaphefaaDoorName
import Derived.Test.YtoindammaphefaaDoorLower
namespace Go.Proofs.YtoindammaphefaaDoor
open Go.RowKit

theorem okW (l : List (Bool × UInt8)) (h : (l.all fun x => !x.1 && nameCharB (x.2.toNat : Int)) = true) : okItems l := by
  intro x hx
  have := List.all_eq_true.1 h x hx
  simp only [Bool.and_eq_true, Bool.not_eq_true'] at this
  exact ⟨fun e => absurd (this.1.symm.trans e) (by decide), fun _ => this.2⟩
theorem noCapW (l : List UInt8) (h : (l.all fun c => !decide (65 ≤ (c.toNat : Int) ∧ (c.toNat : Int) ≤ 90)) = true) : noCap l := by
  intro c hc
  have := List.all_eq_true.1 h c hc
  simp only [Bool.not_eq_true', decide_eq_false_iff_not] at this
  exact this

set_option maxHeartbeats 40000000 in
set_option maxRecDepth 1000000 in
theorem parseNth_odd (g : Nat) (s : ByteArray) (i : Nat) (w : World) (hs : s.size ≤ 140737488351232)
    (c0 : w.cell? ⟨g, 0, none⟩ = some (.string s)) (c1 : w.cell? ⟨g, 1, none⟩ = some (.int .i64 i)) (f1 : w.frozen? ⟨g, 1, none⟩ = false)
    {rest : List UInt8} (hd : s.data.toList.drop i = [111, 100, 100] ++ rest) (hst : stops rest) :
    Calls Tryd.prog 37 #[.pointer (some ⟨g, 0, none⟩)] w fun e w' => NthEnd w g (i + 3) 2 1 e w' := by
  have HC := Lib.hid (fun W d0 d1 fz => parseName_any g s i [(false, 111), (false, 100), (false, 100)] rest W hs d0 d1 fz hd (okW _ (by decide)) hst (by simp))
  have hdc : s.data.toList.drop i = 111 :: ([100, 100] ++ rest) := hd
  have hi : i < s.size := drop_lt hdc
  have hc : s[i] = 111 := drop_get hdc hi
  have hlt : (i : Int) < (s.size : Int) := by omega
  clear hd hdc hst
  go_enter Tryd.func37, Tryd.ntmps37
  go_wp2_with fail
  refine wp_scope_n (c := nthBody) 0 ?_
  conv => arg 2; whnf
  go_wp2_with fail
  go_quiet (fail)
  go_wp2_with fail
  go_quiet (fail)
  go_wp2_with fail
  refine (HC.out _ ?_ ?_ ?_).mono ?_
  · exact c0
  · exact c1
  · exact f1
  rintro e w2 ⟨r, rfl, hr, hm⟩
  obtain rfl : r = ⟨#[111, 100, 100]⟩ := eq_of_data hr
  go_wp2_with fail
  refine (toLower_any _ _ (by decide) (noCapW _ (by decide))).mono ?_
  rintro e w3 ⟨rfl, rfl⟩
  go_wp2_with fail
  refine jumpsQ_ret ?_
  go_ret3
  exact ⟨rfl, (hm.of_drewN).toPos⟩

set_option maxHeartbeats 40000000 in
set_option maxRecDepth 1000000 in
theorem parseNth_even (g : Nat) (s : ByteArray) (i : Nat) (w : World) (hs : s.size ≤ 140737488351232)
    (c0 : w.cell? ⟨g, 0, none⟩ = some (.string s)) (c1 : w.cell? ⟨g, 1, none⟩ = some (.int .i64 i)) (f1 : w.frozen? ⟨g, 1, none⟩ = false)
    {rest : List UInt8} (hd : s.data.toList.drop i = [101, 118, 101, 110] ++ rest) (hst : stops rest) :
    Calls Tryd.prog 37 #[.pointer (some ⟨g, 0, none⟩)] w fun e w' => NthEnd w g (i + 4) 2 0 e w' := by
  have HC := Lib.hid (fun W d0 d1 fz => parseName_any g s i [(false, 101), (false, 118), (false, 101), (false, 110)] rest W hs d0 d1 fz hd (okW _ (by decide)) hst (by simp))
  have hdc : s.data.toList.drop i = 101 :: ([118, 101, 110] ++ rest) := hd
  have hi : i < s.size := drop_lt hdc
  have hc : s[i] = 101 := drop_get hdc hi
  have hlt : (i : Int) < (s.size : Int) := by omega
  clear hd hdc hst
  go_enter Tryd.func37, Tryd.ntmps37
  go_wp2_with fail
  refine wp_scope_n (c := nthBody) 0 ?_
  conv => arg 2; whnf
  go_wp2_with fail
  go_quiet (fail)
  go_wp2_with fail
  go_quiet (fail)
  go_wp2_with fail
  refine (HC.out _ ?_ ?_ ?_).mono ?_
  · exact c0
  · exact c1
  · exact f1
  rintro e w2 ⟨r, rfl, hr, hm⟩
  obtain rfl : r = ⟨#[101, 118, 101, 110]⟩ := eq_of_data hr
  go_wp2_with fail
  refine (toLower_any _ _ (by decide) (noCapW _ (by decide))).mono ?_
  rintro e w3 ⟨rfl, rfl⟩
  go_wp2_with fail
  refine jumpsQ_ret ?_
  go_ret3
  exact ⟨rfl, (hm.of_drewN).toPos⟩
end Go.Proofs.YtoindammaphefaaDoor
