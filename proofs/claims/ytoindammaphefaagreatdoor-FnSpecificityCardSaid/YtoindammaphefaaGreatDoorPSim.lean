/- One simple selector that is no name of a tag: each of the parser's four functions reads it as it is written. -/
import Derived.Test.YtoindammaphefaaGreatDoorPAttrA
import Derived.Test.YtoindammaphefaaGreatDoorPAttrB
import Derived.Test.YtoindammaphefaaGreatDoorPAttrC
import Derived.Test.YtoindammaphefaaGreatDoorPsA
import Derived.Test.YtoindammaphefaaGreatDoorPsR
import Derived.Test.YtoindammaphefaaGreatDoorPsN
namespace Go.Proofs.YtoindammaphefaaGreatDoor
open Go.RowKit

/-- A selector in the frame of its own type was read. -/
def OneSim (T : TypeId) (s : Sim) (g E : Nat) (w : World) (e : Ending) (w' : World) : Prop :=
  ∃ x, e = .returned (.tuple #[.agg x, .nilIface]) ∧ (∀ G, SimV G (.iface T (.agg x)) s) ∧ Pos w w' g E
def PsSim (V : World → Value → Sim → Prop) (s : Sim) (g E : Nat) (w : World) (e : Ending) (w' : World) : Prop :=
  ∃ T x, e = .returned (.tuple #[.iface T x, .string ByteArray.empty, .nilIface]) ∧ V w' (.iface T x) s ∧ Pos w w' g E
theorem simV_id {G : Value → Grp → Prop} {s : Sim} (h : s.kind = 2) : SimV G (.iface 100 (.agg #[.string s.name])) s := by
  constructor <;> intro e <;> first | rfl | omega
theorem simV_cls {G : Value → Grp → Prop} {s : Sim} (h : s.kind = 3) : SimV G (.iface 104 (.agg #[.string s.name])) s := by
  constructor <;> intro e <;> first | rfl | omega
theorem simV_tag {G : Value → Grp → Prop} {s : Sim} (h : s.kind = 0) : SimV G (.iface 96 (.agg #[.string s.name])) s := by
  constructor <;> intro e <;> first | rfl | omega
theorem simV_has {G : Value → Grp → Prop} {s : Sim} (h : s.kind = 4) : SimV G (.iface 108 (.agg #[.string s.name, .string ByteArray.empty, .string ByteArray.empty, .bool false])) s := by
  constructor <;> intro e <;> first | rfl | omega
theorem simV_attr {G : Value → Grp → Prop} {s : Sim} (h : 5 ≤ s.kind ∧ s.kind ≤ 10 ∨ s.kind = 16) : SimV G (attrV s) s := by
  constructor <;> intro e <;> first | rfl | omega
theorem simV_nth {G : Value → Grp → Prop} {s : Sim} (h : s.kind = 11) : SimV G (.iface 129 (.agg #[.int .i64 s.a, .int .i64 s.b, .bool s.last, .bool s.ofType])) s := by
  constructor <;> intro e <;> first | rfl | omega
theorem simV_empty {G : Value → Grp → Prop} {s : Sim} (h : s.kind = 12) : SimV G (.iface 134 (.agg #[])) s := by
  constructor <;> intro e <;> first | rfl | omega
theorem simV_root {G : Value → Grp → Prop} {s : Sim} (h : s.kind = 13) : SimV G (.iface 135 (.agg #[])) s := by
  constructor <;> intro e <;> first | rfl | omega
theorem simV_rel {G : Value → Grp → Prop} {s : Sim} {v : Value} (h : s.kind = 14 ∨ s.kind = 15) (hv : G v s.subs) : SimV G (.iface 121 (.agg #[.string (bs (relName s.kind)), v])) s := by
  constructor <;> intro e <;> first | exact ⟨v, rfl, hv⟩ | omega

theorem OneEnd.sim {t : List UInt8} {g E : Nat} {w w' : World} {e : Ending} {T : TypeId} {s : Sim} (h : OneEnd t g E w e w') (ht : t = s.name.data.toList) (hv : ∀ G, SimV G (.iface T (.agg #[.string s.name])) s) : OneSim T s g E w e w' := by
  obtain ⟨r, he, hr, hp⟩ := h
  obtain rfl : r = s.name := eq_of_data (hr.trans ht)
  exact ⟨_, he, hv, hp⟩
/-- What may stand behind a simple selector. -/
def endsSim (rest : List UInt8) : Prop := ∀ c, rest.head? = some c → c = 32 ∨ c = 44 ∨ c = 41 ∨ c = 35 ∨ c = 46 ∨ c = 91 ∨ c = 58
theorem endsSim.stops {rest : List UInt8} (h : endsSim rest) : stops rest := by
  intro c hc
  rcases h c hc with rfl | rfl | rfl | rfl | rfl | rfl | rfl <;> decide
theorem id_sim (m : Bool) (g : Nat) (s : ByteArray) (i : Nat) (x : Sim) (rest : List UInt8) (w : World) (hs : s.size ≤ 140737488351232)
    (c0 : w.cell? ⟨g, 0, none⟩ = some (.string s)) (c1 : w.cell? ⟨g, 1, none⟩ = some (.int .i64 i)) (f1 : w.frozen? ⟨g, 1, none⟩ = false) (T : List UInt8) (hk : x.kind = 2) (hn : nameOK x.name.data.toList = true) (hT : T = 35 :: wrt (nameItems m x.name.data.toList)) (hd : s.data.toList.drop i = T ++ rest) (hr : endsSim rest) :
    Calls Tryz.prog 40 #[.pointer (some ⟨g, 0, none⟩)] w fun e w' => OneSim 100 x g (i + T.length) w e w' := by
  subst hT
  have hg := goodName m (nameOK_good hn).1 (nameOK_good hn).2
  refine (parseID_any g s i _ rest w hs c0 c1 f1 hd hg.ok hr.stops hg.ne).mono fun e w' h => ?_
  rw [List.length_cons, Nat.add_comm _ 1, ← Nat.add_assoc]
  exact h.sim hg.dec fun G => simV_id hk
theorem cls_sim (m : Bool) (g : Nat) (s : ByteArray) (i : Nat) (x : Sim) (rest : List UInt8) (w : World) (hs : s.size ≤ 140737488351232)
    (c0 : w.cell? ⟨g, 0, none⟩ = some (.string s)) (c1 : w.cell? ⟨g, 1, none⟩ = some (.int .i64 i)) (f1 : w.frozen? ⟨g, 1, none⟩ = false) (T : List UInt8) (hk : x.kind = 3) (hn : nameOK x.name.data.toList = true) (hT : T = 46 :: wrt (nameItems m x.name.data.toList)) (hd : s.data.toList.drop i = T ++ rest) (hr : endsSim rest) :
    Calls Tryz.prog 41 #[.pointer (some ⟨g, 0, none⟩)] w fun e w' => OneSim 104 x g (i + T.length) w e w' := by
  subst hT
  have hg := goodName m (nameOK_good hn).1 (nameOK_good hn).2
  refine (parseClass_any g s i _ rest w hs c0 c1 f1 hd hg.ok hr.stops hg.ne hg.st).mono fun e w' h => ?_
  rw [List.length_cons, Nat.add_comm _ 1, ← Nat.add_assoc]
  exact h.sim hg.dec fun G => simV_cls hk
theorem tag_sim (g : Nat) (s : ByteArray) (i : Nat) (x : Sim) (rest : List UInt8) (w : World) (hs : s.size ≤ 140737488351232)
    (c0 : w.cell? ⟨g, 0, none⟩ = some (.string s)) (c1 : w.cell? ⟨g, 1, none⟩ = some (.int .i64 i)) (f1 : w.frozen? ⟨g, 1, none⟩ = false) (T : List UInt8) (hk : x.kind = 0) (hn : nameOK x.name.data.toList = true) (hT : T = x.name.data.toList) (hd : s.data.toList.drop i = T ++ rest) (hr : endsSim rest) :
    Calls Tryz.prog 39 #[.pointer (some ⟨g, 0, none⟩)] w fun e w' => OneSim 96 x g (i + T.length) w e w' := by
  subst hT
  have hg := goodName false (nameOK_good hn).1 (nameOK_good hn).2
  have hl := nameOK_len hn
  refine (parseType_any g s i (nameItems false x.name.data.toList) rest w hs c0 c1 f1 (by rw [wrt_name]; exact hd) hg.ok hr.stops hg.ne hg.st (by rw [hg.dec]; exact hg.cap) (by rw [hg.dec]; omega)).mono fun e w' h => ?_
  rw [wrt_name] at h
  exact h.sim hg.dec fun G => simV_tag hk
theorem has_sim (g : Nat) (s : ByteArray) (i : Nat) (x : Sim) (rest : List UInt8) (w : World) (hs : s.size ≤ 140737488351232)
    (c0 : w.cell? ⟨g, 0, none⟩ = some (.string s)) (c1 : w.cell? ⟨g, 1, none⟩ = some (.int .i64 i)) (f1 : w.frozen? ⟨g, 1, none⟩ = false) (T : List UInt8) (hk : x.kind = 4) (hn : nameOK x.name.data.toList = true) (hT : T = 91 :: (x.name.data.toList ++ [93])) (hd : s.data.toList.drop i = T ++ rest) :
    Calls Tryz.prog 42 #[.pointer (some ⟨g, 0, none⟩)] w fun e w' => OneSim 108 x g (i + T.length) w e w' := by
  subst hT
  have hg := goodName false (nameOK_good hn).1 (nameOK_good hn).2
  have hl := nameOK_len hn
  refine (parseAttrHas_any g s i (nameItems false x.name.data.toList) rest w hs c0 c1 f1 (by rw [wrt_name, hd]; simp) hg.ok hg.ne hg.st (by rw [hg.dec]; exact hg.cap) (by rw [hg.dec]; omega)).mono fun e w' h => ?_
  obtain ⟨rk, rv, ro, he, h1, h2, h3, h4⟩ := h
  obtain rfl : rk = x.name := eq_of_data (h1.trans hg.dec)
  obtain rfl : rv = ByteArray.empty := eq_of_data h2
  obtain rfl : ro = ByteArray.empty := eq_of_data h3
  refine ⟨_, he, fun G => simV_has hk, ?_⟩
  rw [wrt_name] at h4
  have e : i + (91 :: (x.name.data.toList ++ [93])).length = i + 1 + x.name.data.toList.length + 1 := by simp; omega
  rw [e]
  exact h4
theorem AttrEnd.sim (g : Nat) (x : Sim) (w : World) {its : List (Bool × UInt8)} {op : List UInt8} {ins : Bool} {E : Nat} {w' : World} {e : Ending} (h : AttrEnd (dec its) x.value.data.toList op ins g E w e w') (hdec : dec its = x.name.data.toList)
    (hk : 5 ≤ x.kind ∧ x.kind ≤ 10 ∨ x.kind = 16) (hop : opT x.kind = op) (hf : x.fold = ins) : OneSim 108 x g E w e w' := by
  obtain ⟨rk, rv, ro, he, h1, h2, h3, h4⟩ := h
  obtain rfl : rk = x.name := eq_of_data (h1.trans hdec)
  obtain rfl : rv = x.value := eq_of_data h2
  obtain rfl : ro = bs (opT x.kind) := eq_of_data (by rw [h3, bs_data, hop])
  subst hf
  exact ⟨_, he, fun G => simV_attr hk, h4⟩
theorem attr_sim (g : Nat) (s : ByteArray) (i : Nat) (x : Sim) (rest : List UInt8) (w : World) (hs : s.size ≤ 140737488351232)
    (c0 : w.cell? ⟨g, 0, none⟩ = some (.string s)) (c1 : w.cell? ⟨g, 1, none⟩ = some (.int .i64 i)) (f1 : w.frozen? ⟨g, 1, none⟩ = false) (T : List UInt8) (hk : 5 ≤ x.kind ∧ x.kind ≤ 10 ∨ x.kind = 16) (hn : nameOK x.name.data.toList = true) (hv : valueOK x.value) (hf : x.fold = true → 5 ≤ x.kind ∧ x.kind ≤ 10) (hT : T = attrT x) (hd : s.data.toList.drop i = T ++ rest) :
    Calls Tryz.prog 42 #[.pointer (some ⟨g, 0, none⟩)] w fun e w' => OneSim 108 x g (i + T.length) w e w' := by
  subst hT
  have hg := goodName false (nameOK_good hn).1 (nameOK_good hn).2
  have hl := nameOK_len hn
  have hcap : noCap (dec (nameItems false x.name.data.toList)) := by rw [hg.dec]; exact hg.cap
  have hlen : (dec (nameItems false x.name.data.toList)).length ≤ 1000 := by rw [hg.dec]; omega
  have hb : ∀ c ∈ x.value.data.toList, strB 34 c := fun c hc => by
    obtain ⟨h1, h2, h3, h4⟩ := hv.2 c hc
    refine ⟨h3, h4, ?_, ?_, ?_⟩ <;> (rintro rfl; revert h1; decide)
  have hk' : x.kind = 5 ∨ x.kind = 6 ∨ x.kind = 7 ∨ x.kind = 8 ∨ x.kind = 9 ∨ x.kind = 10 ∨ x.kind = 16 := by omega
  rcases hfo : x.fold with _ | _
  · rcases hk' with h | h | h | h | h | h | h
    · refine (parseAttr_eq g s i (nameItems false x.name.data.toList) x.value.data.toList rest w hs c0 c1 f1 (by rw [wrt_name, hd]; simp [attrT, opT, h, hfo, foldT]) hg.ok hg.ne hg.st hcap hlen hb).mono fun e w' hh => ?_
      have hh := hh.sim (x := x) (g := g) (w := w) hg.dec hk (by simp [opT, h]) hfo
      rw [wrt_name] at hh
      refine cast (congrArg (fun E => OneSim _ x g E w e w') ?_) hh
      simp [attrT, opT, h, hfo, foldT]; omega
    · refine (parseAttr_word g s i (nameItems false x.name.data.toList) x.value.data.toList rest w hs c0 c1 f1 (by rw [wrt_name, hd]; simp [attrT, opT, h, hfo, foldT]) hg.ok hg.ne hg.st hcap hlen hb).mono fun e w' hh => ?_
      have hh := hh.sim (x := x) (g := g) (w := w) hg.dec hk (by simp [opT, h]) hfo
      rw [wrt_name] at hh
      refine cast (congrArg (fun E => OneSim _ x g E w e w') ?_) hh
      simp [attrT, opT, h, hfo, foldT]; omega
    · refine (parseAttr_dash g s i (nameItems false x.name.data.toList) x.value.data.toList rest w hs c0 c1 f1 (by rw [wrt_name, hd]; simp [attrT, opT, h, hfo, foldT]) hg.ok hg.ne hg.st hcap hlen hb).mono fun e w' hh => ?_
      have hh := hh.sim (x := x) (g := g) (w := w) hg.dec hk (by simp [opT, h]) hfo
      rw [wrt_name] at hh
      refine cast (congrArg (fun E => OneSim _ x g E w e w') ?_) hh
      simp [attrT, opT, h, hfo, foldT]; omega
    · refine (parseAttr_pre g s i (nameItems false x.name.data.toList) x.value.data.toList rest w hs c0 c1 f1 (by rw [wrt_name, hd]; simp [attrT, opT, h, hfo, foldT]) hg.ok hg.ne hg.st hcap hlen hb).mono fun e w' hh => ?_
      have hh := hh.sim (x := x) (g := g) (w := w) hg.dec hk (by simp [opT, h]) hfo
      rw [wrt_name] at hh
      refine cast (congrArg (fun E => OneSim _ x g E w e w') ?_) hh
      simp [attrT, opT, h, hfo, foldT]; omega
    · refine (parseAttr_suf g s i (nameItems false x.name.data.toList) x.value.data.toList rest w hs c0 c1 f1 (by rw [wrt_name, hd]; simp [attrT, opT, h, hfo, foldT]) hg.ok hg.ne hg.st hcap hlen hb).mono fun e w' hh => ?_
      have hh := hh.sim (x := x) (g := g) (w := w) hg.dec hk (by simp [opT, h]) hfo
      rw [wrt_name] at hh
      refine cast (congrArg (fun E => OneSim _ x g E w e w') ?_) hh
      simp [attrT, opT, h, hfo, foldT]; omega
    · refine (parseAttr_part g s i (nameItems false x.name.data.toList) x.value.data.toList rest w hs c0 c1 f1 (by rw [wrt_name, hd]; simp [attrT, opT, h, hfo, foldT]) hg.ok hg.ne hg.st hcap hlen hb).mono fun e w' hh => ?_
      have hh := hh.sim (x := x) (g := g) (w := w) hg.dec hk (by simp [opT, h]) hfo
      rw [wrt_name] at hh
      refine cast (congrArg (fun E => OneSim _ x g E w e w') ?_) hh
      simp [attrT, opT, h, hfo, foldT]; omega
    · refine (parseAttr_ne g s i (nameItems false x.name.data.toList) x.value.data.toList rest w hs c0 c1 f1 (by rw [wrt_name, hd]; simp [attrT, opT, h, hfo, foldT]) hg.ok hg.ne hg.st hcap hlen hb).mono fun e w' hh => ?_
      have hh := hh.sim (x := x) (g := g) (w := w) hg.dec hk (by simp [opT, h]) hfo
      rw [wrt_name] at hh
      refine cast (congrArg (fun E => OneSim _ x g E w e w') ?_) hh
      simp [attrT, opT, h, hfo, foldT]; omega
  · have hk2 := hf hfo
    rcases hk' with h | h | h | h | h | h | h
    · refine (parseAttr_eqI g s i (nameItems false x.name.data.toList) x.value.data.toList rest w hs c0 c1 f1 (by rw [wrt_name, hd]; simp [attrT, opT, h, hfo, foldT]) hg.ok hg.ne hg.st hcap hlen hb).mono fun e w' hh => ?_
      have hh := hh.sim (x := x) (g := g) (w := w) hg.dec hk (by simp [opT, h]) hfo
      rw [wrt_name] at hh
      refine cast (congrArg (fun E => OneSim _ x g E w e w') ?_) hh
      simp [attrT, opT, h, hfo, foldT]; omega
    · refine (parseAttr_wordI g s i (nameItems false x.name.data.toList) x.value.data.toList rest w hs c0 c1 f1 (by rw [wrt_name, hd]; simp [attrT, opT, h, hfo, foldT]) hg.ok hg.ne hg.st hcap hlen hb).mono fun e w' hh => ?_
      have hh := hh.sim (x := x) (g := g) (w := w) hg.dec hk (by simp [opT, h]) hfo
      rw [wrt_name] at hh
      refine cast (congrArg (fun E => OneSim _ x g E w e w') ?_) hh
      simp [attrT, opT, h, hfo, foldT]; omega
    · refine (parseAttr_dashI g s i (nameItems false x.name.data.toList) x.value.data.toList rest w hs c0 c1 f1 (by rw [wrt_name, hd]; simp [attrT, opT, h, hfo, foldT]) hg.ok hg.ne hg.st hcap hlen hb).mono fun e w' hh => ?_
      have hh := hh.sim (x := x) (g := g) (w := w) hg.dec hk (by simp [opT, h]) hfo
      rw [wrt_name] at hh
      refine cast (congrArg (fun E => OneSim _ x g E w e w') ?_) hh
      simp [attrT, opT, h, hfo, foldT]; omega
    · refine (parseAttr_preI g s i (nameItems false x.name.data.toList) x.value.data.toList rest w hs c0 c1 f1 (by rw [wrt_name, hd]; simp [attrT, opT, h, hfo, foldT]) hg.ok hg.ne hg.st hcap hlen hb).mono fun e w' hh => ?_
      have hh := hh.sim (x := x) (g := g) (w := w) hg.dec hk (by simp [opT, h]) hfo
      rw [wrt_name] at hh
      refine cast (congrArg (fun E => OneSim _ x g E w e w') ?_) hh
      simp [attrT, opT, h, hfo, foldT]; omega
    · refine (parseAttr_sufI g s i (nameItems false x.name.data.toList) x.value.data.toList rest w hs c0 c1 f1 (by rw [wrt_name, hd]; simp [attrT, opT, h, hfo, foldT]) hg.ok hg.ne hg.st hcap hlen hb).mono fun e w' hh => ?_
      have hh := hh.sim (x := x) (g := g) (w := w) hg.dec hk (by simp [opT, h]) hfo
      rw [wrt_name] at hh
      refine cast (congrArg (fun E => OneSim _ x g E w e w') ?_) hh
      simp [attrT, opT, h, hfo, foldT]; omega
    · refine (parseAttr_partI g s i (nameItems false x.name.data.toList) x.value.data.toList rest w hs c0 c1 f1 (by rw [wrt_name, hd]; simp [attrT, opT, h, hfo, foldT]) hg.ok hg.ne hg.st hcap hlen hb).mono fun e w' hh => ?_
      have hh := hh.sim (x := x) (g := g) (w := w) hg.dec hk (by simp [opT, h]) hfo
      rw [wrt_name] at hh
      refine cast (congrArg (fun E => OneSim _ x g E w e w') ?_) hh
      simp [attrT, opT, h, hfo, foldT]; omega
    · omega
end Go.Proofs.YtoindammaphefaaGreatDoor
