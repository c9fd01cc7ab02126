/- The walks of ZZIdentifier and of the thin package's Identifier: they read a name at the front of a text. No conditions beside that. -/
import Derived.Test.YtoindammaphefaaDoorIdent
namespace Go.Proofs.YtoindammaphefaaDoor
open Go.RowKit

theorem below_drewN' {B : Nat} {a w : World} (h : Below B a w) (n : Nat) : Below B a (w.drewN n) := ⟨h.os, h.tape, h.output, h.size, h.block⟩
/-- A parser of the call's own has moved: nothing older has turned. -/
theorem Moved.below {w0 w w1 : World} {g j : Nat} (h : Moved w w1 g j) (h0 : Below w0.heap.size w0 w) (hg : w0.heap.size ≤ g) : Below w0.heap.size w0 w1 := by
  obtain ⟨n, rfl⟩ := h
  exact below_drewN' (h0.setCell hg _) n

/-- What a reader of the parser's front hands back: the text read, and how many bytes that were. -/
def FrontEnd (l : List UInt8) (n : Nat) (w : World) (e : Ending) (w' : World) : Prop :=
  ∃ r : ByteArray, e = .returned (.tuple #[.string r, .int .i64 n, .nilIface]) ∧ r.data.toList = l ∧ Below w.heap.size w w'
def FrontEndOk (l : List UInt8) (n : Nat) (w : World) (e : Ending) (w' : World) : Prop :=
  ∃ r : ByteArray, e = .returned (.tuple #[.string r, .int .i64 n, .bool true]) ∧ r.data.toList = l ∧ Below w.heap.size w w'

set_option maxHeartbeats 400000 in
theorem zzIdentifier_any (s : ByteArray) (its : List (Bool × UInt8)) (rest : List UInt8) (w : World) (hs : s.size ≤ 140737488351232)
    (hd : s.data.toList = wrt its ++ rest) (hok : okItems its) (hst : stops rest) (hne : its ≠ []) (hst2 : starts its) :
    Calls Tryd.prog 27 #[.string s] w fun e w' => FrontEnd (dec its) (wrt its).length w e w' := by
  have HC := Lib.hid (fun W d0 d1 fz => parseIdentifier_any w.heap.size s 0 its rest W hs d0 d1 fz (by rw [List.drop_zero]; exact hd) hok hst hne hst2)
  clear hd hok hst hst2
  go_enter Tryd.func27, Tryd.ntmps27
  go_wp2_with (go_at_call 35; refine (HC.out _ ?_ ?_ ?_).mono ?_; (go_simp); (go_simp); (go_simp); rintro e w2 ⟨r, rfl, hr, hm⟩
               have hb := hm.below ((Below.refl w.heap.size w).alloc (Nat.le_refl _) _) (Nat.le_refl _)
               have hp := hm.pos (v := .int .i64 0) (by go_simp)
               simp only [Nat.zero_add] at hp)
  go_quiet (fail)
  go_wp2_with (fail)
  go_ret3
  exact ⟨r, rfl, hr, below_drewN' hb _⟩

theorem identifier_any (s : ByteArray) (its : List (Bool × UInt8)) (rest : List UInt8) (w : World) (hs : s.size ≤ 140737488351232)
    (hd : s.data.toList = wrt its ++ rest) (hok : okItems its) (hst : stops rest) (hne : its ≠ []) (hst2 : starts its) :
    Calls Tryd.prog 17 #[.string s] w fun e w' => FrontEndOk (dec its) (wrt its).length w e w' := by
  have HC := Lib.hid (zzIdentifier_any s its rest w hs hd hok hst hne hst2)
  clear hd hok hst hst2
  go_enter Tryd.func17, Tryd.ntmps17
  go_wp2_with (go_at_call 27; refine HC.out.mono ?_; rintro e w2 ⟨r, rfl, hr, hb⟩)
  go_quiet (fail)
  go_wp2_with (fail)
  go_ret3
  exact ⟨r, rfl, hr, below_drewN' hb _⟩
end Go.Proofs.YtoindammaphefaaDoor
