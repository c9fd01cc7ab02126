/- The walk of the parser's parseIdentifier: it reads a name that begins with no dash and no figure. No conditions beside that. -/
import Derived.Test.YtoindammaphefaaGreatDoorName
namespace Go.Proofs.YtoindammaphefaaGreatDoor
open Go.RowKit

/-- The first byte of a name may begin an identifier. -/
def starts (its : List (Bool × UInt8)) : Prop := ∀ e c r, its = (e, c) :: r → e = true ∨ nameStartB (c.toNat : Int) = true

theorem nameStart_not_dash {c : UInt8} (h : nameStartB (c.toNat : Int) = true) : ((c.toNat : Int) == 45) = false := by
  simp [nameStartB] at h
  simp
  omega

set_option maxHeartbeats 1000000 in
set_option maxRecDepth 100000 in
theorem parseIdentifier_any (g : Nat) (s : ByteArray) (i : Nat) (its : List (Bool × UInt8)) (rest : List UInt8) (w : World) (hs : s.size ≤ 140737488351232)
    (c0 : w.cell? ⟨g, 0, none⟩ = some (.string s)) (c1 : w.cell? ⟨g, 1, none⟩ = some (.int .i64 i)) (f1 : w.frozen? ⟨g, 1, none⟩ = false)
    (hd : s.data.toList.drop i = wrt its ++ rest) (hok : okItems its) (hst : stops rest) (hne : its ≠ []) (hst2 : starts its) :
    Calls Tryz.prog 47 #[.pointer (some ⟨g, 0, none⟩)] w fun e w' => NameEnd its g i w e w' := by
  have HC := Lib.hid (fun W d0 d1 fz => parseName_any g s i its rest W hs d0 d1 fz hd hok hst hne)
  obtain ⟨c, l, hdc, h45, h2⟩ : ∃ c l, s.data.toList.drop i = c :: l ∧ ((c.toNat : Int) == 45) = false ∧ (nameStartB (c.toNat : Int) = true ∨ (nameStartB (c.toNat : Int) = false ∧ c = 92)) := by
    cases its with
    | nil => exact absurd rfl hne
    | cons x its =>
      obtain ⟨e, c⟩ := x
      cases e
      · have h := (hst2 false c its rfl).resolve_left (by simp)
        exact ⟨c, wrt its ++ rest, by rw [hd]; rfl, nameStart_not_dash h, .inl h⟩
      · exact ⟨92, c :: (wrt its ++ rest), by rw [hd]; rfl, by decide, .inr ⟨by decide, rfl⟩⟩
  have hi : i < s.size := drop_lt hdc
  have hc : s[i] = c := drop_get hdc hi
  have hlt : (i : Int) < (s.size : Int) := by omega
  clear hd hok hst hst2 hdc
  rcases h2 with h2 | ⟨h2, rfl⟩
  all_goals
    go_enter Tryz.func47, Tryz.ntmps47
    go_wp2_with (fail)
    refine wp_loop_rounds 1 ?_
    rw [rounds_succ]
    go_wp2_with (fail)
    go_quiet (fail)
    go_wp2_with (fail)
    go_quiet (fail)
    go_wp2_with (fail)
    go_quiet (fail)
    go_wp2_with (first
      | (go_at_call 55; refine (nameStart_any _ _).mono ?_; (first | rw [h2] | rw [show nameStartB 92 = false by decide]); rintro e w' ⟨rfl, rfl⟩)
      | (go_at_call 49; refine (HC.out _ ?_ ?_ ?_).mono ?_; (go_simp); (go_simp); (go_simp); rintro e w2 ⟨r, rfl, hr, hm⟩))
    go_ret2
    exact ⟨r, rfl, hr, hm.of_drewN⟩
end Go.Proofs.YtoindammaphefaaGreatDoor
