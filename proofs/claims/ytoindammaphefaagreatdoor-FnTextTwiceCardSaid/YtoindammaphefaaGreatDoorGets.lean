/- What a selector in memory says of its cells. No program in sight. -/
import Derived.Test.YtoindammaphefaaGreatDoorAst
import Derived.Deep.CutBlock
/- The walks of the reference's Value, word, sign, simple: each answers true only where the selector is as it should be. -/
namespace Go.Proofs.YtoindammaphefaaGreatDoor
open Go.RowKit

/-- true only where P holds; the world stands. -/
def TrueIf (P : Prop) (w : World) (e : Ending) (w' : World) : Prop := ∃ b : Bool, e = .returned (.bool b) ∧ w = w' ∧ (b = true → P)
theorem TrueIf.mono {P Q : Prop} {w w' : World} {e : Ending} (h : TrueIf P w e w') (hq : P → Q) : TrueIf Q w e w' := by
  obtain ⟨b, h1, h2, h3⟩ := h; exact ⟨b, h1, h2, fun h => hq (h3 h)⟩
set_option maxHeartbeats 2000000 in
set_option maxRecDepth 100000 in
theorem word_any (s : ByteArray) (w : World) (hs : s.size ≤ 140737488351232) :
    Calls Tryz.prog 18 #[.string s] w fun e w' => TrueIf True w e w' := by
  go_enter Tryz.func18, Tryz.ntmps18
  go_wp2_with (fail)
  go_loop [6] (fun v6 => ∃ k : Nat, v6 = .int .i64 k ∧ k ≤ s.size) (fun v6 => s.size - (intOf v6).toNat)
  case atStart => exact ⟨0, rfl, Nat.zero_le _⟩
  case round =>
    obtain ⟨k, rfl, hk⟩ := hrel
    by_cases hlt : (k : Int) < (s.size : Int)
    · have hk' : k < s.size := by omega
      rcases hc : (((s[k]).toNat : Int) == 32) with _ | _
      · go_wp2_with (fail)
        go_round
        case rel => exact ⟨k + 1, by go_num, by omega⟩
        case measure => simp [intOf]; omega
      · go_wp2_with (fail)
        go_ret
        exact ⟨_, rfl, rfl, fun _ => trivial⟩
    · go_wp2_with (fail)
      go_ret
      exact ⟨_, rfl, rfl, fun _ => trivial⟩
set_option maxHeartbeats 4000000 in
set_option maxRecDepth 100000 in
theorem value_any (s : ByteArray) (w : World) (hs : s.size ≤ 140737488351232) :
    Calls Tryz.prog 17 #[.string s] w fun e w' => TrueIf (valueOK s) w e w' := by
  go_enter Tryz.func17, Tryz.ntmps17
  go_wp2_with (fail)
  go_loop [3, 7] (fun v3 v7 => ∃ (k : Nat) (b : Bool), v3 = .bool b ∧ v7 = .int .i64 k ∧ k ≤ s.size ∧ Hid (∀ j (h : j < s.size), j < k → valueB s[j])) (fun _ v7 => s.size - (intOf v7).toNat)
  case atStart => exact ⟨0, false, rfl, rfl, Nat.zero_le _, fun j _ h => by omega⟩
  case round =>
    obtain ⟨k, b, rfl, rfl, hk, H⟩ := hrel
    by_cases hlt : (k : Int) < (s.size : Int)
    · have hk' : k < s.size := by omega
      by_cases h1 : ((s[k]).toNat : Int) < 32
      · go_wp2_with (fail)
        go_ret
        exact ⟨_, rfl, rfl, by simp⟩
      by_cases h2 : 126 < ((s[k]).toNat : Int)
      · go_wp2_with (fail)
        go_ret
        exact ⟨_, rfl, rfl, by simp⟩
      rcases h3 : (((s[k]).toNat : Int) == 34) with _ | _
      · rcases h4 : (((s[k]).toNat : Int) == 92) with _ | _
        · have hv : valueB s[k] := ⟨by omega, by omega, by rintro h; rw [h] at h3; exact absurd h3 (by decide), by rintro h; rw [h] at h4; exact absurd h4 (by decide)⟩
          have HV := Lib.hid hv
          clear hv
          rcases h5 : (((s[k]).toNat : Int) != 32) with _ | _ <;> rcases b with _ | _
          all_goals
            go_wp2_with (fail)
            go_round
            case rel => exact ⟨k + 1, _, rfl, by go_num, by omega, fun j h hj => by
              by_cases hjk : j < k
              · exact H.out j h hjk
              · have : j = k := by omega
                subst this
                exact HV.out⟩
            case measure => simp [intOf]; omega
        · go_wp2_with (fail)
          go_ret
          exact ⟨_, rfl, rfl, by simp⟩
      · go_wp2_with (fail)
        go_ret
        exact ⟨_, rfl, rfl, by simp⟩
    · have hkl : k = s.size := by omega
      have hall : ∀ c ∈ s.data.toList, valueB c := fun c hc => by
        obtain ⟨j, hj, e⟩ := List.mem_iff_getElem.1 hc
        have hj' : j < s.size := by have := size_of_data (r := s) rfl; omega
        have := H.out j hj' (by omega)
        rw [show s[j] = s.data.toList[j] from rfl, e] at this
        exact this
      have HALL := Lib.hid hall
      clear hall hkl
      by_cases h4 : (s.size : Int) ≤ 40 <;> rcases b with _ | _
      all_goals
        go_wp2_with (fail)
        go_ret
        exact ⟨_, rfl, rfl, fun h => ⟨by first | omega | simp at h, HALL.out⟩⟩
end Go.Proofs.YtoindammaphefaaGreatDoor
/- The walk of the reference's simple: it answers true only at a selector that is as it should be. -/
namespace Go.Proofs.YtoindammaphefaaGreatDoor
open Go.RowKit

/-- A simple selector as an argument. -/
def simArg (s : Sim) (v : Value) : Value := .agg #[.int .i64 s.kind, .string s.name, .string s.value, .bool s.fold, .int .i64 s.a, .int .i64 s.b, .bool s.last, .bool s.ofType, v]
/-- Group at depth n answers true only at what it lets through. -/
def GroupC (n : Nat) : Prop := ∀ (D : Nat) (w : World) (P : Nat → Prop) (v : Value) (l : Grp), GrpIn w P D v l → smallG D l → (∀ b, P b → b < w.heap.size) → Calls Tryz.prog 6 #[v, .int .i64 n] w fun e w' => BoolIf (grpOK n l) w e w'
theorem ret_false {P : Prop} {w w' : World} (h : Below w.heap.size w w') : BoolIf P w (.returned (.bool false)) w' := ⟨false, rfl, h, by simp⟩
theorem ret_true {P : Prop} {w w' : World} {b : Bool} (h : Below w.heap.size w w') (hp : P) : BoolIf P w (.returned (.bool b)) w' := ⟨b, rfl, h, fun _ => hp⟩
set_option maxHeartbeats 8000000 in
set_option maxRecDepth 100000 in
theorem simple_in (Q : Prop) (n : Nat) (hn : n ≤ 100) (hC : 1 < n → GroupC (n - 1)) (D : Nat) (w : World) (P : Nat → Prop) (A : Option Addr) (m c : Nat) (s : Sim) (hv : GrpIn w P D (.slice A m c) s.subs) (hP : ∀ b, P b → b < w.heap.size)
    (h1 : s.name.size ≤ 140737488351232) (h2 : s.value.size ≤ 140737488351232) (h3 : smallG D s.subs) (hQ : simOK (grpOK (n - 1)) s → Q) :
    Calls Tryz.prog 11 #[simArg s (.slice A m c), .int .i64 n] w fun e w' => BoolIf Q w e w' := by
  obtain ⟨kind, name, value, fold, a, b, last, ofType, subs⟩ := s
  simp only [Sim.kind, Sim.name, Sim.value, Sim.fold, Sim.a, Sim.b, Sim.last, Sim.ofType, Sim.subs, simArg, simOK, kindOK] at *
  have HC := Lib.hid hC
  have HV := Lib.hid hv
  have HP := Lib.hid hP
  have H3 := Lib.hid h3
  have HBW := Lib.hid ((Below.refl w.heap.size w).alloc (Nat.le_refl _) (.cells #[.int .i64 kind, .string name, .string value, .bool fold, .int .i64 a, .int .i64 b, .bool last, .bool ofType, .slice A m c] 47))
  have HQ := Lib.hid hQ
  clear hC hv hP h3 hQ
  go_enter Tryz.func11, Tryz.ntmps11
  go_upto_region 1 with fail
  rename_i K1 hK1 K0 hK0
  have CUT : Hid ((fold = true → 5 ≤ kind ∧ kind ≤ 10) ∧ (last = true ∨ ofType = true → kind = 11)) → ∀ u5 u6 u7 u8 u9 u10 u11 u12 u13 u14 u15 u16 u17 u18 u19 u20 u21 u22 u23 u24 u25 u26 u27 u28 u29 u30 u31 u32 u33 u34 u35 u36 u37 u38 u39 u40 u41 u42 u43 u44 u45 u46 u47 u48 u49 u50 u51 u52 u53 u54 u55 u56 u57 u58 u59 u60 u61 u62 u63 u64 u65 u66 u67 u68 u69 u70 u71 u72 u73 u74 u75 u76 u77 u78 u79 u80 u81 u82 u83 u84 u85 u86 u87 u88 u89 u90 u91 u92 u93 u94 u95 u96 u97 u98 u99 u100 u101 u102 u103 u104 u105 u106 u107 u108 u109 u110 : Value, K1 { tmps := #[.agg #[.int .i64 kind, .string name, .string value, .bool fold, .int .i64 a, .int .i64 b, .bool last, .bool ofType, .slice A m c], .int .i64 n, .pointer (some ⟨w.heap.size, 0, none⟩), undef, .bool false, u5, u6, u7, u8, u9, u10, u11, u12, u13, u14, u15, u16, u17, u18, u19, u20, u21, u22, u23, u24, u25, u26, u27, u28, u29, u30, u31, u32, u33, u34, u35, u36, u37, u38, u39, u40, u41, u42, u43, u44, u45, u46, u47, u48, u49, u50, u51, u52, u53, u54, u55, u56, u57, u58, u59, u60, u61, u62, u63, u64, u65, u66, u67, u68, u69, u70, u71, u72, u73, u74, u75, u76, u77, u78, u79, u80, u81, u82, u83, u84, u85, u86, u87, u88, u89, u90, u91, u92, u93, u94, u95, u96, u97, u98, u99, u100, u101, u102, u103, u104, u105, u106, u107, u108, u109, u110], defers := [] } (w.alloc (.cells #[.int .i64 kind, .string name, .string value, .bool fold, .int .i64 a, .int .i64 b, .bool last, .bool ofType, .slice A m c] 47)) := by
    intro HFL u5 u6 u7 u8 u9 u10 u11 u12 u13 u14 u15 u16 u17 u18 u19 u20 u21 u22 u23 u24 u25 u26 u27 u28 u29 u30 u31 u32 u33 u34 u35 u36 u37 u38 u39 u40 u41 u42 u43 u44 u45 u46 u47 u48 u49 u50 u51 u52 u53 u54 u55 u56 u57 u58 u59 u60 u61 u62 u63 u64 u65 u66 u67 u68 u69 u70 u71 u72 u73 u74 u75 u76 u77 u78 u79 u80 u81 u82 u83 u84 u85 u86 u87 u88 u89 u90 u91 u92 u93 u94 u95 u96 u97 u98 u99 u100 u101 u102 u103 u104 u105 u106 u107 u108 u109 u110
    apply hK1
    clear hK1 hK0 K0
    by_cases k0 : kind = 0
    · subst k0
      go_wp2_with fail
      refine (name_any name _ h1).mono ?_
      rintro e w2 ⟨rfl, rfl⟩
      rcases hn1 : nameOK name.data.toList with _ | _
      · clear hn1
        go_wp2_with fail
        go_ret
        exact ret_false HBW.out
      · have HN1 := Lib.hid hn1
        clear hn1
        go_wp2_with fail
        go_ret
        exact ret_true HBW.out (HQ.out ⟨HFL.out.1, HFL.out.2, .inl ⟨by first | omega | decide | simp [Sim.kind], HN1.out⟩⟩)
    have n0 : (kind == 0) = false := by simpa using k0
    by_cases k2 : kind = 2
    · subst k2
      go_wp2_with fail
      refine (name_any name _ h1).mono ?_
      rintro e w2 ⟨rfl, rfl⟩
      rcases hn1 : nameOK name.data.toList with _ | _
      · clear hn1
        go_wp2_with fail
        go_ret
        exact ret_false HBW.out
      · have HN1 := Lib.hid hn1
        clear hn1
        go_wp2_with fail
        go_ret
        exact ret_true HBW.out (HQ.out ⟨HFL.out.1, HFL.out.2, .inl ⟨by first | omega | decide | simp [Sim.kind], HN1.out⟩⟩)
    have n2 : (kind == 2) = false := by simpa using k2
    by_cases k3 : kind = 3
    · subst k3
      go_wp2_with fail
      refine (name_any name _ h1).mono ?_
      rintro e w2 ⟨rfl, rfl⟩
      rcases hn1 : nameOK name.data.toList with _ | _
      · clear hn1
        go_wp2_with fail
        go_ret
        exact ret_false HBW.out
      · have HN1 := Lib.hid hn1
        clear hn1
        go_wp2_with fail
        go_ret
        exact ret_true HBW.out (HQ.out ⟨HFL.out.1, HFL.out.2, .inl ⟨by first | omega | decide | simp [Sim.kind], HN1.out⟩⟩)
    have n3 : (kind == 3) = false := by simpa using k3
    by_cases k4 : kind = 4
    · subst k4
      go_wp2_with fail
      refine (name_any name _ h1).mono ?_
      rintro e w2 ⟨rfl, rfl⟩
      rcases hn1 : nameOK name.data.toList with _ | _
      · clear hn1
        go_wp2_with fail
        go_ret
        exact ret_false HBW.out
      · have HN1 := Lib.hid hn1
        clear hn1
        go_wp2_with fail
        go_ret
        exact ret_true HBW.out (HQ.out ⟨HFL.out.1, HFL.out.2, .inl ⟨by first | omega | decide | simp [Sim.kind], HN1.out⟩⟩)
    have n4 : (kind == 4) = false := by simpa using k4
    by_cases k1 : kind = 1
    · subst k1
      go_wp2_with fail
      go_ret
      exact ret_true HBW.out (HQ.out ⟨HFL.out.1, HFL.out.2, .inr (.inl (by first | omega | decide | simp [Sim.kind]))⟩)
    have n1 : (kind == 1) = false := by simpa using k1
    by_cases k12 : kind = 12
    · subst k12
      go_wp2_with fail
      go_ret
      exact ret_true HBW.out (HQ.out ⟨HFL.out.1, HFL.out.2, .inr (.inl (by first | omega | decide | simp [Sim.kind]))⟩)
    have n12 : (kind == 12) = false := by simpa using k12
    by_cases k13 : kind = 13
    · subst k13
      go_wp2_with fail
      go_ret
      exact ret_true HBW.out (HQ.out ⟨HFL.out.1, HFL.out.2, .inr (.inl (by first | omega | decide | simp [Sim.kind]))⟩)
    have n13 : (kind == 13) = false := by simpa using k13
    by_cases k5 : kind = 5
    · subst k5
      go_wp2_with fail
      refine (name_any name _ h1).mono ?_
      rintro e w2 ⟨rfl, rfl⟩
      rcases hn1 : nameOK name.data.toList with _ | _
      · clear hn1
        go_wp2_with fail
        go_ret
        exact ret_false HBW.out
      · have HN1 := Lib.hid hn1
        clear hn1
        go_wp2_with fail
        refine (value_any value _ h2).mono ?_
        rintro e w3 ⟨vb, rfl, rfl, hval⟩
        rcases vb with _ | _
        · go_wp2_with fail
          go_ret
          exact ret_false HBW.out
        · have HV1 := Lib.hid (hval rfl)
          clear hval
          go_wp2_with fail
          go_ret
          exact ret_true HBW.out (HQ.out ⟨HFL.out.1, HFL.out.2, .inr (.inr (.inl ⟨by first | omega | decide | simp [Sim.kind], HN1.out, HV1.out⟩))⟩)
    have n5 : (kind == 5) = false := by simpa using k5
    by_cases k16 : kind = 16
    · subst k16
      go_wp2_with fail
      refine (name_any name _ h1).mono ?_
      rintro e w2 ⟨rfl, rfl⟩
      rcases hn1 : nameOK name.data.toList with _ | _
      · clear hn1
        go_wp2_with fail
        go_ret
        exact ret_false HBW.out
      · have HN1 := Lib.hid hn1
        clear hn1
        go_wp2_with fail
        refine (value_any value _ h2).mono ?_
        rintro e w3 ⟨vb, rfl, rfl, hval⟩
        rcases vb with _ | _
        · go_wp2_with fail
          go_ret
          exact ret_false HBW.out
        · have HV1 := Lib.hid (hval rfl)
          clear hval
          go_wp2_with fail
          go_ret
          exact ret_true HBW.out (HQ.out ⟨HFL.out.1, HFL.out.2, .inr (.inr (.inl ⟨by first | omega | decide | simp [Sim.kind], HN1.out, HV1.out⟩))⟩)
    have n16 : (kind == 16) = false := by simpa using k16
    by_cases k6 : kind = 6
    · subst k6
      go_wp2_with fail
      refine (name_any name _ h1).mono ?_
      rintro e w2 ⟨rfl, rfl⟩
      rcases hn1 : nameOK name.data.toList with _ | _
      · clear hn1
        go_wp2_with fail
        go_ret
        exact ret_false HBW.out
      · have HN1 := Lib.hid hn1
        clear hn1
        go_wp2_with fail
        refine (value_any value _ h2).mono ?_
        rintro e w3 ⟨vb, rfl, rfl, hval⟩
        rcases vb with _ | _
        · go_wp2_with fail
          go_ret
          exact ret_false HBW.out
        · have HV1 := Lib.hid (hval rfl)
          clear hval
          go_wp2_with fail
          refine (word_any value _ h2).mono ?_
          rintro e w4 ⟨wb, rfl, rfl, _⟩
          rcases wb with _ | _
          all_goals
            go_wp2_with fail
            go_ret
            exact ret_true HBW.out (HQ.out ⟨HFL.out.1, HFL.out.2, .inr (.inr (.inl ⟨by first | omega | decide | simp [Sim.kind], HN1.out, HV1.out⟩))⟩)
    have n6 : (kind == 6) = false := by simpa using k6
    by_cases k7 : kind = 7
    · subst k7
      go_wp2_with fail
      refine (name_any name _ h1).mono ?_
      rintro e w2 ⟨rfl, rfl⟩
      rcases hn1 : nameOK name.data.toList with _ | _
      · clear hn1
        go_wp2_with fail
        go_ret
        exact ret_false HBW.out
      · have HN1 := Lib.hid hn1
        clear hn1
        go_wp2_with fail
        refine (value_any value _ h2).mono ?_
        rintro e w3 ⟨vb, rfl, rfl, hval⟩
        rcases vb with _ | _
        · go_wp2_with fail
          go_ret
          exact ret_false HBW.out
        · have HV1 := Lib.hid (hval rfl)
          clear hval
          go_wp2_with fail
          go_ret
          exact ret_true HBW.out (HQ.out ⟨HFL.out.1, HFL.out.2, .inr (.inr (.inl ⟨by first | omega | decide | simp [Sim.kind], HN1.out, HV1.out⟩))⟩)
    have n7 : (kind == 7) = false := by simpa using k7
    by_cases k8 : kind = 8
    · subst k8
      go_wp2_with fail
      refine (name_any name _ h1).mono ?_
      rintro e w2 ⟨rfl, rfl⟩
      rcases hn1 : nameOK name.data.toList with _ | _
      · clear hn1
        go_wp2_with fail
        go_ret
        exact ret_false HBW.out
      · have HN1 := Lib.hid hn1
        clear hn1
        go_wp2_with fail
        refine (value_any value _ h2).mono ?_
        rintro e w3 ⟨vb, rfl, rfl, hval⟩
        rcases vb with _ | _
        · go_wp2_with fail
          go_ret
          exact ret_false HBW.out
        · have HV1 := Lib.hid (hval rfl)
          clear hval
          go_wp2_with fail
          go_ret
          exact ret_true HBW.out (HQ.out ⟨HFL.out.1, HFL.out.2, .inr (.inr (.inl ⟨by first | omega | decide | simp [Sim.kind], HN1.out, HV1.out⟩))⟩)
    have n8 : (kind == 8) = false := by simpa using k8
    by_cases k9 : kind = 9
    · subst k9
      go_wp2_with fail
      refine (name_any name _ h1).mono ?_
      rintro e w2 ⟨rfl, rfl⟩
      rcases hn1 : nameOK name.data.toList with _ | _
      · clear hn1
        go_wp2_with fail
        go_ret
        exact ret_false HBW.out
      · have HN1 := Lib.hid hn1
        clear hn1
        go_wp2_with fail
        refine (value_any value _ h2).mono ?_
        rintro e w3 ⟨vb, rfl, rfl, hval⟩
        rcases vb with _ | _
        · go_wp2_with fail
          go_ret
          exact ret_false HBW.out
        · have HV1 := Lib.hid (hval rfl)
          clear hval
          go_wp2_with fail
          go_ret
          exact ret_true HBW.out (HQ.out ⟨HFL.out.1, HFL.out.2, .inr (.inr (.inl ⟨by first | omega | decide | simp [Sim.kind], HN1.out, HV1.out⟩))⟩)
    have n9 : (kind == 9) = false := by simpa using k9
    by_cases k10 : kind = 10
    · subst k10
      go_wp2_with fail
      refine (name_any name _ h1).mono ?_
      rintro e w2 ⟨rfl, rfl⟩
      rcases hn1 : nameOK name.data.toList with _ | _
      · clear hn1
        go_wp2_with fail
        go_ret
        exact ret_false HBW.out
      · have HN1 := Lib.hid hn1
        clear hn1
        go_wp2_with fail
        refine (value_any value _ h2).mono ?_
        rintro e w3 ⟨vb, rfl, rfl, hval⟩
        rcases vb with _ | _
        · go_wp2_with fail
          go_ret
          exact ret_false HBW.out
        · have HV1 := Lib.hid (hval rfl)
          clear hval
          go_wp2_with fail
          go_ret
          exact ret_true HBW.out (HQ.out ⟨HFL.out.1, HFL.out.2, .inr (.inr (.inl ⟨by first | omega | decide | simp [Sim.kind], HN1.out, HV1.out⟩))⟩)
    have n10 : (kind == 10) = false := by simpa using k10
    by_cases k11 : kind = 11
    · subst k11
      by_cases a1 : -9 ≤ a
      · by_cases a2 : a ≤ 9
        · by_cases b1 : -9 ≤ b
          · by_cases b2 : b ≤ 9
            · go_wp2_with fail
              go_ret
              exact ret_true HBW.out (HQ.out ⟨HFL.out.1, HFL.out.2, .inr (.inr (.inr (.inl ⟨by first | rfl | trivial, by first | omega | (simp only [Sim.a]; omega), by first | omega | (simp only [Sim.a]; omega), by first | omega | (simp only [Sim.b]; omega), by first | omega | (simp only [Sim.b]; omega)⟩)))⟩)
            · go_wp2_with fail
              go_ret
              exact ret_false HBW.out
          · go_wp2_with fail
            go_ret
            exact ret_false HBW.out
        · go_wp2_with fail
          go_ret
          exact ret_false HBW.out
      · go_wp2_with fail
        go_ret
        exact ret_false HBW.out
    have n11 : (kind == 11) = false := by simpa using k11
    by_cases k14 : kind = 14
    · subst k14
      by_cases hn1 : 1 < n
      · have HG := Lib.hid (HC.out hn1 D (w.alloc (.cells #[.int .i64 14, .string name, .string value, .bool fold, .int .i64 a, .int .i64 b, .bool last, .bool ofType, .slice A m c] 47)) P (.slice A m c) subs (HV.out.turn (fun _ h => h) (Alike.below ((Below.refl w.heap.size w).alloc (Nat.le_refl _) _) HP.out)) H3.out (fun b hb => by have := HP.out b hb; simp; omega))
        have hn2 : (1 : Int) < (n : Int) := by omega
        have HE := Lib.hid (show (n : Int) - 1 = ((n - 1 : Nat) : Int) by omega)
        go_wp2_with fail
        rw [HE.out]
        refine HG.out.mono ?_
        rintro e w2 ⟨gb, rfl, hb2, hg⟩
        have hb3 := HBW.out.trans (hb2.mono (by simp))
        rcases gb with _ | _
        · clear hg hb2
          go_wp2_with fail
          go_ret
          exact ret_false hb3
        · have HGG := Lib.hid (hg rfl)
          clear hg hb2
          go_wp2_with fail
          go_ret
          exact ret_true hb3 (HQ.out ⟨HFL.out.1, HFL.out.2, .inr (.inr (.inr (.inr ⟨by first | omega | decide | simp [Sim.kind], HGG.out⟩)))⟩)
      · have hn2 : ¬ (1 : Int) < (n : Int) := by omega
        go_wp2_with fail
        go_ret
        exact ret_false HBW.out
    have n14 : (kind == 14) = false := by simpa using k14
    by_cases k15 : kind = 15
    · subst k15
      by_cases hn1 : 1 < n
      · have HG := Lib.hid (HC.out hn1 D (w.alloc (.cells #[.int .i64 15, .string name, .string value, .bool fold, .int .i64 a, .int .i64 b, .bool last, .bool ofType, .slice A m c] 47)) P (.slice A m c) subs (HV.out.turn (fun _ h => h) (Alike.below ((Below.refl w.heap.size w).alloc (Nat.le_refl _) _) HP.out)) H3.out (fun b hb => by have := HP.out b hb; simp; omega))
        have hn2 : (1 : Int) < (n : Int) := by omega
        have HE := Lib.hid (show (n : Int) - 1 = ((n - 1 : Nat) : Int) by omega)
        go_wp2_with fail
        rw [HE.out]
        refine HG.out.mono ?_
        rintro e w2 ⟨gb, rfl, hb2, hg⟩
        have hb3 := HBW.out.trans (hb2.mono (by simp))
        rcases gb with _ | _
        · clear hg hb2
          go_wp2_with fail
          go_ret
          exact ret_false hb3
        · have HGG := Lib.hid (hg rfl)
          clear hg hb2
          go_wp2_with fail
          go_ret
          exact ret_true hb3 (HQ.out ⟨HFL.out.1, HFL.out.2, .inr (.inr (.inr (.inr ⟨by first | omega | decide | simp [Sim.kind], HGG.out⟩)))⟩)
      · have hn2 : ¬ (1 : Int) < (n : Int) := by omega
        go_wp2_with fail
        go_ret
        exact ret_false HBW.out
    have n15 : (kind == 15) = false := by simpa using k15
    clear k0 k1 k2 k3 k4 k5 k6 k7 k8 k9 k10 k11 k12 k13 k14 k15 k16
    go_wp2_with fail
    go_ret
    exact ret_false HBW.out
  clear hK1
  revert CUT
  rcases fold with _ | _ <;> rcases last with _ | _ <;> rcases ofType with _ | _

  · intro CUT
    go_wp2_with fail
    first | exact Lib.hid trivial | exact Lib.hid ⟨by simp; try omega, by simp; try omega⟩
  · intro CUT
    by_cases l1 : kind = 11
    · subst l1
      go_wp2_with fail
      first | exact Lib.hid trivial | exact Lib.hid ⟨by simp; try omega, by simp; try omega⟩
    · have l2 : (kind != 11) = true := by simpa using l1
      clear l1
      go_wp2_with fail
      go_ret
      exact ret_false HBW.out
  · intro CUT
    by_cases l1 : kind = 11
    · subst l1
      go_wp2_with fail
      first | exact Lib.hid trivial | exact Lib.hid ⟨by simp; try omega, by simp; try omega⟩
    · have l2 : (kind != 11) = true := by simpa using l1
      clear l1
      go_wp2_with fail
      go_ret
      exact ret_false HBW.out
  · intro CUT
    by_cases l1 : kind = 11
    · subst l1
      go_wp2_with fail
      first | exact Lib.hid trivial | exact Lib.hid ⟨by simp; try omega, by simp; try omega⟩
    · have l2 : (kind != 11) = true := by simpa using l1
      clear l1
      go_wp2_with fail
      go_ret
      exact ret_false HBW.out
  · intro CUT
    by_cases f1 : kind < 5
    · go_wp2_with fail
      go_ret
      exact ret_false HBW.out
    by_cases f2 : 10 < kind
    · go_wp2_with fail
      go_ret
      exact ret_false HBW.out
    go_wp2_with fail
    first | exact Lib.hid trivial | exact Lib.hid ⟨by simp; try omega, by simp; try omega⟩
  · intro CUT
    by_cases f1 : kind < 5
    · go_wp2_with fail
      go_ret
      exact ret_false HBW.out
    by_cases f2 : 10 < kind
    · go_wp2_with fail
      go_ret
      exact ret_false HBW.out
    have l1 : (kind != 11) = true := by simp; omega
    go_wp2_with fail
    go_ret
    exact ret_false HBW.out
  · intro CUT
    by_cases f1 : kind < 5
    · go_wp2_with fail
      go_ret
      exact ret_false HBW.out
    by_cases f2 : 10 < kind
    · go_wp2_with fail
      go_ret
      exact ret_false HBW.out
    have l1 : (kind != 11) = true := by simp; omega
    go_wp2_with fail
    go_ret
    exact ret_false HBW.out
  · intro CUT
    by_cases f1 : kind < 5
    · go_wp2_with fail
      go_ret
      exact ret_false HBW.out
    by_cases f2 : 10 < kind
    · go_wp2_with fail
      go_ret
      exact ret_false HBW.out
    have l1 : (kind != 11) = true := by simp; omega
    go_wp2_with fail
    go_ret
    exact ret_false HBW.out
theorem simple_any (n : Nat) (hn : n ≤ 100) (hC : 1 < n → GroupC (n - 1)) (D : Nat) (w : World) (P : Nat → Prop) (A : Option Addr) (m c : Nat) (s : Sim) (hv : GrpIn w P D (.slice A m c) s.subs) (hP : ∀ b, P b → b < w.heap.size)
    (h1 : s.name.size ≤ 140737488351232) (h2 : s.value.size ≤ 140737488351232) (h3 : smallG D s.subs) :
    Calls Tryz.prog 11 #[simArg s (.slice A m c), .int .i64 n] w fun e w' => BoolIf (simOK (grpOK (n - 1)) s) w e w' := simple_in _ n hn hC D w P A m c s hv hP h1 h2 h3 id
end Go.Proofs.YtoindammaphefaaGreatDoor
namespace Go.Proofs.YtoindammaphefaaGreatDoor
open Go.RowKit

section
variable {w : World} {P : Nat → Prop} {G : Value → Grp → Prop}
theorem GrpIn.slice {D : Nat} {v : Value} {l : Grp} (h : GrpIn w P D v l) : ∃ A c, v = .slice A l.length c := by
  cases D with
  | zero => obtain ⟨rfl, A, c, rfl⟩ := h; exact ⟨A, c, rfl⟩
  | succ D => obtain ⟨A, c, hv, _⟩ := h; exact ⟨A, c, hv⟩
theorem GrpIn.get {D : Nat} {A : Option Addr} {m cap : Nat} {l : Grp} (h : GrpIn w P D (.slice A m cap) l) {k : Nat} {c : Cpx} (hc : l[k]? = some c) :
    ∃ D' ad, D = D' + 1 ∧ A = some ad ∧ P ad.block ∧ ∃ cv, w.cell? (ad.add k) = some cv ∧ CpxIn (GrpIn w P D') w P cv c := by
  cases D with
  | zero => obtain ⟨rfl, _⟩ := h; simp at hc
  | succ D =>
    obtain ⟨A', c', hv, _, hk⟩ := h
    obtain ⟨ad, hA, hP, cv, hcv, hx⟩ := hk k c hc
    injection hv with hA2 _ _
    exact ⟨D, ad, rfl, hA2.trans hA, hP, cv, by simpa using hcv, hx⟩
theorem CpxIn.slice {v : Value} {c : Cpx} (h : CpxIn G w P v c) : ∃ A cap, v = .slice A c.length cap := by obtain ⟨A, c, hv, _⟩ := h; exact ⟨A, c, hv⟩
theorem CpxIn.get {A : Option Addr} {m cap : Nat} {c : Cpx} (h : CpxIn G w P (.slice A m cap) c) {k : Nat} {p : Cmp} (hp : c[k]? = some p) :
    ∃ ad, A = some ad ∧ P ad.block ∧ w.cell? (ad.add (k * 2)) = some (.string p.1) ∧ ∃ pv, w.cell? (ad.add (k * 2 + 1)) = some pv ∧ PartsIn G w P pv p.2 := by
  obtain ⟨A', c', hv, _, hk⟩ := h
  obtain ⟨ad, hA, hP, h0, pv, h1, hx⟩ := hk k p hp
  injection hv with hA2 _ _
  exact ⟨ad, hA2.trans hA, hP, h0, pv, h1, hx⟩
theorem PartsIn.slice {v : Value} {l : List Sim} (h : PartsIn G w P v l) : ∃ A cap, v = .slice A l.length cap := by obtain ⟨A, c, hv, _⟩ := h; exact ⟨A, c, hv⟩
theorem PartsIn.get {A : Option Addr} {m cap : Nat} {l : List Sim} (h : PartsIn G w P (.slice A m cap) l) {k : Nat} {s : Sim} (hs : l[k]? = some s) :
    ∃ ad, A = some ad ∧ P ad.block ∧ SimIn G (fun j => w.cell? (ad.add (k * 9 + j))) s := by
  obtain ⟨A', c', hv, _, hk⟩ := h
  obtain ⟨ad, hA, hP, hx⟩ := hk k s hs
  injection hv with hA2 _ _
  exact ⟨ad, hA2.trans hA, hP, hx⟩
end
theorem cell_addN (w : World) (a : Addr) (i : Nat) {v : Option Value} (j : Nat) (h : w.cell? (a.add (i + (j + 1))) = v) : w.cell? ⟨(a.add i).block, (a.add i).off + (j + 1), none⟩ = v := (cell_add w a i j).trans h
/-- The nine cells of a simple selector in a later world, as a load asks for them. -/
theorem SimIn.cells {G : Value → Grp → Prop} {w w' : World} {P : Nat → Prop} {ad : Addr} {k : Nat} {s : Sim} (h : SimIn G (fun j => w.cell? (ad.add (k * 9 + j))) s) (hP : P ad.block) (ha : Alike P w w') :
    ∃ v, (w'.cell? (ad.add (k * 9)) = some (.int .i64 s.kind) ∧ w'.cell? ⟨(ad.add (k * 9)).block, (ad.add (k * 9)).off + 1, none⟩ = some (.string s.name) ∧ w'.cell? ⟨(ad.add (k * 9)).block, (ad.add (k * 9)).off + 2, none⟩ = some (.string s.value)
      ∧ w'.cell? ⟨(ad.add (k * 9)).block, (ad.add (k * 9)).off + 3, none⟩ = some (.bool s.fold) ∧ w'.cell? ⟨(ad.add (k * 9)).block, (ad.add (k * 9)).off + 4, none⟩ = some (.int .i64 s.a) ∧ w'.cell? ⟨(ad.add (k * 9)).block, (ad.add (k * 9)).off + 5, none⟩ = some (.int .i64 s.b)
      ∧ w'.cell? ⟨(ad.add (k * 9)).block, (ad.add (k * 9)).off + 6, none⟩ = some (.bool s.last) ∧ w'.cell? ⟨(ad.add (k * 9)).block, (ad.add (k * 9)).off + 7, none⟩ = some (.bool s.ofType) ∧ w'.cell? ⟨(ad.add (k * 9)).block, (ad.add (k * 9)).off + 8, none⟩ = some v) ∧ G v s.subs := by
  obtain ⟨h0, h1, h2, h3, h4, h5, h6, h7, v, h8, hg⟩ := h
  have e : ∀ j, w'.cell? (ad.add (k * 9 + j)) = w.cell? (ad.add (k * 9 + j)) := fun j => ha.cell (by rw [add_lt]; exact hP)
  exact ⟨v, ⟨(e 0).trans h0, cell_addN _ _ _ 0 ((e 1).trans h1), cell_addN _ _ _ 1 ((e 2).trans h2), cell_addN _ _ _ 2 ((e 3).trans h3), cell_addN _ _ _ 3 ((e 4).trans h4), cell_addN _ _ _ 4 ((e 5).trans h5), cell_addN _ _ _ 5 ((e 6).trans h6),
    cell_addN _ _ _ 6 ((e 7).trans h7), cell_addN _ _ _ 7 ((e 8).trans h8)⟩, hg⟩
end Go.Proofs.YtoindammaphefaaGreatDoor
