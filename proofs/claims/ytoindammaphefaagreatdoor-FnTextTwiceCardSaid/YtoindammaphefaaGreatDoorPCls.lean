/- The walks of parseClassSelector and parseTypeSelector. -/
import Derived.Test.YtoindammaphefaaGreatDoorPId
namespace Go.Proofs.YtoindammaphefaaGreatDoor
open Go.RowKit

set_option maxHeartbeats 1000000 in
set_option maxRecDepth 100000 in
theorem parseClass_any (g : Nat) (s : ByteArray) (i : Nat) (its : List (Bool × UInt8)) (rest : List UInt8) (w : World) (hs : s.size ≤ 140737488351232)
    (c0 : w.cell? ⟨g, 0, none⟩ = some (.string s)) (c1 : w.cell? ⟨g, 1, none⟩ = some (.int .i64 i)) (f1 : w.frozen? ⟨g, 1, none⟩ = false)
    (hd : s.data.toList.drop i = 46 :: (wrt its ++ rest)) (hok : okItems its) (hst : stops rest) (hne : its ≠ []) (hst2 : starts its) :
    Calls Tryz.prog 41 #[.pointer (some ⟨g, 0, none⟩)] w fun e w' => OneEnd (dec its) g (i + 1 + (wrt its).length) w e w' := by
  have HC := Lib.hid (fun W d0 d1 fz => parseIdentifier_any g s (i + 1) its rest W hs d0 d1 fz (drop_next hd) hok hst hne hst2)
  have hi : i < s.size := drop_lt hd
  have hc : s[i] = 46 := drop_get hd hi
  have hlt : (i : Int) < (s.size : Int) := by omega
  have F := Lib.hid (fun (w' : World) (j : Nat) (h : Pos w w' g j) => h.facts c0 c1 f1)
  have hg : g < w.heap.size := cell_lt c0
  have hp := (Pos.start c1).below hg ((Below.refl w.heap.size w).alloc (Nat.le_refl _) (.cells #[.string ByteArray.empty] 104))
  obtain ⟨d0, d1, df⟩ := F.out _ _ hp
  clear hd hok hst hne hst2
  go_enter Tryz.func41, Tryz.ntmps41
  go_wp2_with fail
  go_quiet (fail)
  go_wp2_with fail
  go_quiet (fail)
  go_wp2_with fail
  refine (HC.out _ ?_ ?_ ?_).mono ?_
  · exact (F.out _ _ ((hp.drewN _).set (i + 1))).1
  · exact (F.out _ _ ((hp.drewN _).set (i + 1))).2.1
  · exact (F.out _ _ ((hp.drewN _).set (i + 1))).2.2
  rintro e w2 ⟨r, rfl, hr, hm⟩
  have hN := Moved.new hm hg
  have k0 : w2.cell? ⟨w.heap.size, 0, none⟩ = some (.string ByteArray.empty) := by rw [cell_of_row _ _ _ _ _ _ hN]; rfl
  have kf := new_frozen hN 0
  have hp2 := ((hp.drewN _).set (i + 1)).trans hm.toPos
  clear hm hN
  go_wp2_with fail
  have k1 : (w2.setCell ⟨w.heap.size, 0, none⟩ (.string r)).cell? ⟨w.heap.size, 0, none⟩ = some (.string r) := World.cell?_setCell_same _ _ _ k0
  refine bodyPost_ret (v := .tuple #[.agg #[.string r], .nilIface]) (by simp [results, Tryz.results41, go_sem, k1]) rfl ?_
  exact ⟨r, rfl, hr, hp2.own_ hg (Nat.le_refl _) _⟩

set_option maxHeartbeats 1000000 in
set_option maxRecDepth 100000 in
theorem parseType_any (g : Nat) (s : ByteArray) (i : Nat) (its : List (Bool × UInt8)) (rest : List UInt8) (w : World) (hs : s.size ≤ 140737488351232)
    (c0 : w.cell? ⟨g, 0, none⟩ = some (.string s)) (c1 : w.cell? ⟨g, 1, none⟩ = some (.int .i64 i)) (f1 : w.frozen? ⟨g, 1, none⟩ = false)
    (hd : s.data.toList.drop i = wrt its ++ rest) (hok : okItems its) (hst : stops rest) (hne : its ≠ []) (hst2 : starts its) (hcap : noCap (dec its)) (hlen : (dec its).length ≤ 1000) :
    Calls Tryz.prog 39 #[.pointer (some ⟨g, 0, none⟩)] w fun e w' => OneEnd (dec its) g (i + (wrt its).length) w e w' := by
  have HC := Lib.hid (fun W d0 d1 fz => parseIdentifier_any g s i its rest W hs d0 d1 fz hd hok hst hne hst2)
  have F := Lib.hid (fun (w' : World) (j : Nat) (h : Pos w w' g j) => h.facts c0 c1 f1)
  have hg : g < w.heap.size := cell_lt c0
  have hp := (Pos.start c1).below hg ((Below.refl w.heap.size w).alloc (Nat.le_refl _) (.cells #[.string ByteArray.empty] 96))
  obtain ⟨d0, d1, df⟩ := F.out _ _ hp
  have HCap := Lib.hid hcap
  clear hd hok hst hne hst2 hcap
  go_enter Tryz.func39, Tryz.ntmps39
  go_wp2_with fail
  refine (HC.out _ ?_ ?_ ?_).mono ?_
  · exact d0
  · exact d1
  · exact df
  rintro e w2 ⟨r, rfl, hr, hm⟩
  have hN : w2.heap[w.heap.size]? = some (.cells #[.string ByteArray.empty] 96 (0, 0)) := (hm.heap (by omega)).trans (heap_alloc_new w _)
  have k0 : w2.cell? ⟨w.heap.size, 0, none⟩ = some (.string ByteArray.empty) := by rw [cell_of_row _ _ _ _ _ _ hN]; rfl
  have kf := new_frozen hN 0
  have hp2 := hp.trans hm.toPos
  have hrs : r.size ≤ 1000 := by rw [size_of_data hr]; exact hlen
  have HR := Lib.hid hr
  clear hm hN hr
  go_wp2_with fail
  refine (toLower_any r _ (by omega) (by rw [HR.out]; exact HCap.out)).mono ?_
  rintro e w3 ⟨rfl, rfl⟩
  go_wp2_with fail
  have k1 : (w2.setCell ⟨w.heap.size, 0, none⟩ (.string r)).cell? ⟨w.heap.size, 0, none⟩ = some (.string r) := World.cell?_setCell_same _ _ _ k0
  refine bodyPost_ret (v := .tuple #[.agg #[.string r], .nilIface]) (by simp [results, Tryz.results39, go_sem, k1]) rfl ?_
  exact ⟨r, rfl, HR.out, hp2.own_ hg (Nat.le_refl _) _⟩
end Go.Proofs.YtoindammaphefaaGreatDoor
