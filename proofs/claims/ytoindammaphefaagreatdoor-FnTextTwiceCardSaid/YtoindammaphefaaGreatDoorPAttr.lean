/- The walk of parseAttributeSelector: [key] and [key op "value" i]. Conditions: small names, values that stand for themselves. -/
import Derived.Test.YtoindammaphefaaGreatDoorPCls
import Derived.Test.YtoindammaphefaaGreatDoorStr
namespace Go.Proofs.YtoindammaphefaaGreatDoor
open Go.RowKit

/-- An attribute selector that was read. -/
def AttrEnd (k v o : List UInt8) (ins : Bool) (g E : Nat) (w : World) (e : Ending) (w' : World) : Prop :=
  ∃ rk rv ro : ByteArray, e = .returned (.tuple #[.agg #[.string rk, .string rv, .string ro, .bool ins], .nilIface]) ∧ rk.data.toList = k ∧ rv.data.toList = v ∧ ro.data.toList = o ∧ Pos w w' g E
theorem set_same {w : World} {g : Nat} {cs : Array Value} {e : TypeId} (h : w.heap[g]? = some (.cells cs e (0, 0))) (i : Nat) (u : Value) : (w.setCell ⟨g, i, none⟩ u).heap[g]? = some (.cells (cs.setIfInBounds i u) e (0, 0)) := by
  simp [World.setCell, Array.getElem?_modify, h]
/-- The four cells of a block, written one by one. -/
theorem set4 {W : World} {b : Nat} {a0 a1 a2 a3 b0 b1 b2 b3 : Value} {T : TypeId} (h : W.heap[b]? = some (.cells #[a0, a1, a2, a3] T (0, 0))) :
    ((((W.setCell ⟨b, 0, none⟩ b0).setCell ⟨b, 1, none⟩ b1).setCell ⟨b, 2, none⟩ b2).setCell ⟨b, 3, none⟩ b3).heap[b]? = some (.cells #[b0, b1, b2, b3] T (0, 0)) :=
  set_same (set_same (set_same (set_same h 0 b0) 1 b1) 2 b2) 3 b3
theorem noWs_of {c : UInt8} {l : List UInt8} (h : ¬ c = 32 ∧ ¬ c = 9 ∧ ¬ c = 13 ∧ ¬ c = 10 ∧ ¬ c = 12 ∧ ¬ c = 47) : noWs (c :: l) := by
  intro d hd; simp at hd; subst hd; exact h
theorem noWs_name {its : List (Bool × UInt8)} {rest : List UInt8} (hst2 : starts its) (hne : its ≠ []) : noWs (wrt its ++ rest) := by
  cases its with
  | nil => exact absurd rfl hne
  | cons x l =>
    obtain ⟨e, c⟩ := x
    rcases hst2 e c l rfl with rfl | h
    · exact noWs_of (by decide)
    · cases e
      · refine noWs_of ⟨?_, ?_, ?_, ?_, ?_, ?_⟩ <;> (rintro rfl; revert h; decide)
      · exact noWs_of (by decide)
set_option maxHeartbeats 1000000 in
set_option maxRecDepth 100000 in
theorem parseAttrHas_any (g : Nat) (s : ByteArray) (i : Nat) (its : List (Bool × UInt8)) (rest : List UInt8) (w : World) (hs : s.size ≤ 140737488351232)
    (c0 : w.cell? ⟨g, 0, none⟩ = some (.string s)) (c1 : w.cell? ⟨g, 1, none⟩ = some (.int .i64 i)) (f1 : w.frozen? ⟨g, 1, none⟩ = false)
    (hd : s.data.toList.drop i = 91 :: (wrt its ++ 93 :: rest)) (hok : okItems its) (hne : its ≠ []) (hst2 : starts its) (hcap : noCap (dec its)) (hlen : (dec its).length ≤ 1000) :
    Calls Tryz.prog 42 #[.pointer (some ⟨g, 0, none⟩)] w fun e w' => AttrEnd (dec its) [] [] false g (i + 1 + (wrt its).length + 1) w e w' := by
  have hst : stops (93 :: rest) := by intro c h; simp at h; subst h; decide
  have hd1 := drop_next hd
  have hd2 := drop_add hd1
  have hi : i < s.size := drop_lt hd
  have hc : s[i] = 91 := drop_get hd hi
  have hlt : (i : Int) < (s.size : Int) := by omega
  have hj : i + 1 + (wrt its).length < s.size := drop_lt hd2
  obtain ⟨j, hjd⟩ : ∃ j, j = i + 1 + (wrt its).length := ⟨_, rfl⟩
  rw [← hjd] at hd2 hj ⊢
  have hcj : s[j] = 93 := drop_get hd2 hj
  have hltj : (j : Int) < (s.size : Int) := by omega
  have S1 := Lib.hid (fun W d0 d1 fz => skip_any g s (i + 1) 0 _ W hs (by omega) d0 d1 fz hd1 (noWs_name hst2 hne))
  have HC := Lib.hid (fun W d0 d1 fz => parseIdentifier_any g s (i + 1) its (93 :: rest) W hs d0 d1 fz hd1 hok hst hne hst2)
  have S2 := Lib.hid (fun W d0 d1 fz => skip_any g s j 0 _ W hs (by omega) d0 d1 fz hd2 (noWs_of (by decide)))
  have F := Lib.hid (fun (w' : World) (j : Nat) (h : Pos w w' g j) => h.facts c0 c1 f1)
  have hg : g < w.heap.size := cell_lt c0
  have hp := (Pos.start c1).below hg ((Below.refl w.heap.size w).alloc (Nat.le_refl _) (.cells #[.string ByteArray.empty, .string ByteArray.empty, .string ByteArray.empty, .bool false] 108))
  obtain ⟨d0, d1, df⟩ := F.out _ _ hp
  have HCap := Lib.hid hcap
  have HJ := Lib.hid hjd
  clear hd hd1 hd2 hok hst hne hst2 hcap hjd
  go_enter Tryz.func42, Tryz.ntmps42
  go_wp2_with fail
  go_quiet (fail)
  go_wp2_with fail
  go_quiet (fail)
  go_wp2_with fail
  refine (S1.out _ ?_ ?_ ?_).mono ?_
  · exact (F.out _ _ ((hp.drewN _).set (i + 1))).1
  · exact (F.out _ _ ((hp.drewN _).set (i + 1))).2.1
  · exact (F.out _ _ ((hp.drewN _).set (i + 1))).2.2
  rintro e w1 ⟨rfl, m1⟩
  rw [Nat.add_zero] at m1
  have hN := Moved.new m1 hg
  have p1 := ((hp.drewN _).set (i + 1)).trans m1.toPos
  clear m1 d0 d1 df
  obtain ⟨d0, d1, df⟩ := F.out _ _ p1
  go_wp2_with fail
  refine (HC.out _ d0 d1 df).mono ?_
  rintro e w2 ⟨rk, rfl, hrk, m2⟩
  have hN2 := (m2.heap (by omega)).trans hN
  have p2 := p1.trans m2.toPos
  rw [← HJ.out] at p2
  have hks : rk.size ≤ 1000 := by rw [size_of_data hrk]; exact hlen
  have HRK := Lib.hid hrk
  clear m2 hN d0 d1 df hrk
  obtain ⟨d0, d1, df⟩ := F.out _ _ p2
  go_wp2_with fail
  refine (toLower_any rk _ (by omega) (by rw [HRK.out]; exact HCap.out)).mono ?_
  rintro e w3 ⟨rfl, rfl⟩
  go_wp2_with fail
  refine (S2.out _ d0 d1 df).mono ?_
  rintro e w4 ⟨rfl, m4⟩
  rw [Nat.add_zero] at m4
  have hN4 := (m4.heap (by omega)).trans hN2
  have p4 := p2.trans m4.toPos
  clear m4 hN2 d0 d1 df
  obtain ⟨d0, d1, df⟩ := F.out _ _ p4
  have k0 : w4.cell? ⟨w.heap.size, 0, none⟩ = some (.string ByteArray.empty) := by rw [cell_of_row _ _ _ _ _ _ hN4]; rfl
  have k1 : w4.cell? ⟨w.heap.size, 1, none⟩ = some (.string ByteArray.empty) := by rw [cell_of_row _ _ _ _ _ _ hN4]; rfl
  have k2 : w4.cell? ⟨w.heap.size, 2, none⟩ = some (.string ByteArray.empty) := by rw [cell_of_row _ _ _ _ _ _ hN4]; rfl
  have k3 : w4.cell? ⟨w.heap.size, 3, none⟩ = some (.bool false) := by rw [cell_of_row _ _ _ _ _ _ hN4]; rfl
  have f0 := new_frozen hN4 0
  have f10 := new_frozen hN4 1
  have f2 := new_frozen hN4 2
  have f3 := new_frozen hN4 3
  go_wp2_with fail
  go_quiet (fail)
  go_wp2_with fail
  go_quiet (fail)
  go_wp2_with fail
  have hN5 : ∀ q : Nat, ((w4.drewN q).setCell ⟨g, 1, none⟩ (.int .i64 ((j : Int) + 1))).heap[w.heap.size]? = some (.cells #[.string ByteArray.empty, .string ByteArray.empty, .string ByteArray.empty, .bool false] 108 (0, 0)) :=
    fun q => (Below.heap_setCell _ ⟨g, 1, none⟩ _ _ (by show w.heap.size ≠ g; omega)).trans hN4
  have hN6 := fun q => set4 (b0 := .string rk) (b1 := .string ByteArray.empty) (b2 := .string ByteArray.empty) (b3 := .bool false) (hN5 q)
  have e0 := fun q => (cell_of_row _ _ 0 _ _ _ (hN6 q)).trans rfl
  have e1 := fun q => (cell_of_row _ _ 1 _ _ _ (hN6 q)).trans rfl
  have e2 := fun q => (cell_of_row _ _ 2 _ _ _ (hN6 q)).trans rfl
  have e3 := fun q => (cell_of_row _ _ 3 _ _ _ (hN6 q)).trans rfl
  refine bodyPost_ret (v := .tuple #[.agg #[.string rk, .string ByteArray.empty, .string ByteArray.empty, .bool false], .nilIface]) ?_ rfl ?_
  · simp only [show (⟨#[]⟩ : ByteArray) = ByteArray.empty from rfl]
    simp [results, Tryz.results42, go_sem, e0, e1, e2, e3]
  · exact ⟨rk, _, _, rfl, HRK.out, rfl, rfl, ((((((p4.drewN _).set (j + 1)).own_ hg (Nat.le_refl _) _).own_ hg (Nat.le_refl _) _).own_ hg (Nat.le_refl _) _).own_ hg (Nat.le_refl _) _)⟩
end Go.Proofs.YtoindammaphefaaGreatDoor
