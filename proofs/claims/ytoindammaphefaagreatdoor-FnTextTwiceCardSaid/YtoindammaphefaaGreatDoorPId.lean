/- The walks of parseIDSelector, parseClassSelector, parseTypeSelector: a name behind its sign, a name. Conditions: the names are as okItems says; what follows ends them. -/
import Derived.Test.YtoindammaphefaaGreatDoorIdent
import Derived.Test.YtoindammaphefaaGreatDoorLower
import Derived.Test.YtoindammaphefaaGreatDoorPos
import Derived.Handy
namespace Go.Proofs.YtoindammaphefaaGreatDoor
open Go.RowKit

theorem Pos.own_ {w w1 : World} {g i : Nat} (h : Pos w w1 g i) (hg : g < w.heap.size) {p : Addr} (hp : w.heap.size ≤ p.block) (v : Value) : Pos w (w1.setCell p v) g i :=
  ⟨h.os, h.tape, h.output, by rw [setCell_size]; exact h.size, fun k hk hne => (Below.heap_setCell w1 p v k (by omega)).trans (h.block k hk hne), (Below.heap_setCell w1 p v g (by omega)).trans h.own⟩
theorem Moved.heap {w w1 : World} {g j k : Nat} (h : Moved w w1 g j) (hk : k ≠ g) : w1.heap[k]? = w.heap[k]? := by
  obtain ⟨n, rfl⟩ := h
  exact Below.heap_setCell w ⟨g, 1, none⟩ _ k hk
/-- A block of the call's own, behind the parser's moves. -/
theorem Moved.new {w w1 : World} {g j j' n : Nat} {o : Obj} (h : Moved (((w.alloc o).drewN n).setCell ⟨g, 1, none⟩ (.int .i64 j')) w1 g j) (hg : g < w.heap.size) : w1.heap[w.heap.size]? = some o := by
  rw [h.heap (by omega), Below.heap_setCell _ ⟨g, 1, none⟩ _ _ (by show w.heap.size ≠ g; omega)]
  exact heap_alloc_new w o
theorem new_frozen {w : World} {g : Nat} {cs : Array Value} {e : TypeId} (h : w.heap[g]? = some (.cells cs e (0, 0))) (i : Nat) : w.frozen? ⟨g, i, none⟩ = false := by simp [World.frozen?, h]
/-- A simple selector of one text. -/
def OneEnd (t : List UInt8) (g E : Nat) (w : World) (e : Ending) (w' : World) : Prop := ∃ r : ByteArray, e = .returned (.tuple #[.agg #[.string r], .nilIface]) ∧ r.data.toList = t ∧ Pos w w' g E
set_option maxHeartbeats 1000000 in
set_option maxRecDepth 100000 in
theorem parseID_any (g : Nat) (s : ByteArray) (i : Nat) (its : List (Bool × UInt8)) (rest : List UInt8) (w : World) (hs : s.size ≤ 140737488351232)
    (c0 : w.cell? ⟨g, 0, none⟩ = some (.string s)) (c1 : w.cell? ⟨g, 1, none⟩ = some (.int .i64 i)) (f1 : w.frozen? ⟨g, 1, none⟩ = false)
    (hd : s.data.toList.drop i = 35 :: (wrt its ++ rest)) (hok : okItems its) (hst : stops rest) (hne : its ≠ []) :
    Calls Tryz.prog 40 #[.pointer (some ⟨g, 0, none⟩)] w fun e w' => OneEnd (dec its) g (i + 1 + (wrt its).length) w e w' := by
  have HC := Lib.hid (fun W d0 d1 fz => parseName_any g s (i + 1) its rest W hs d0 d1 fz (drop_next hd) hok hst hne)
  have hi : i < s.size := drop_lt hd
  have hc : s[i] = 35 := drop_get hd hi
  have hlt : (i : Int) < (s.size : Int) := by omega
  have F := Lib.hid (fun (w' : World) (j : Nat) (h : Pos w w' g j) => h.facts c0 c1 f1)
  have hg : g < w.heap.size := cell_lt c0
  have hp := (Pos.start c1).below hg ((Below.refl w.heap.size w).alloc (Nat.le_refl _) (.cells #[.string ByteArray.empty] 100))
  obtain ⟨d0, d1, df⟩ := F.out _ _ hp
  clear hd hok hst hne
  go_enter Tryz.func40, Tryz.ntmps40
  go_wp2_with fail
  go_quiet (fail)
  go_wp2_with fail
  go_quiet (fail)
  go_wp2_with fail
  refine (HC.out _ ?_ ?_ ?_).mono ?_
  · exact (F.out _ _ ((hp.drewN _).set (i + 1))).1
  · exact (F.out _ _ ((hp.drewN _).set (i + 1))).2.1
  · exact (F.out _ _ ((hp.drewN _).set (i + 1))).2.2
  rintro e w2 ⟨r, rfl, hr, hm⟩
  have hN := Moved.new hm hg
  have k0 : w2.cell? ⟨w.heap.size, 0, none⟩ = some (.string ByteArray.empty) := by rw [cell_of_row _ _ _ _ _ _ hN]; rfl
  have kf := new_frozen hN 0
  have hp2 := ((hp.drewN _).set (i + 1)).trans hm.toPos
  clear hm hN
  go_wp2_with fail
  have k1 : (w2.setCell ⟨w.heap.size, 0, none⟩ (.string r)).cell? ⟨w.heap.size, 0, none⟩ = some (.string r) := World.cell?_setCell_same _ _ _ k0
  refine bodyPost_ret (v := .tuple #[.agg #[.string r], .nilIface]) (by simp [results, Tryz.results40, go_sem, k1]) rfl ?_
  exact ⟨r, rfl, hr, hp2.own_ hg (Nat.le_refl _) _⟩
end Go.Proofs.YtoindammaphefaaGreatDoor
