/- PROVED: the tied card of laws.FnTextTwice: it returns true for every input, and its argument reads as before. Conditions: the listed package-level variables read as the program's text lays them (the card ties them to it). -/
import Derived.Test.YtoindammaphefaaGreatDoorSComp
import Derived.Test.YtoindammaphefaaGreatDoorSel0
import Derived.Test.YtoindammaphefaaGreatDoorParse
import Derived.Test.YtoindammaphefaaGreatDoorLGroup
import Derived.Test.YtoindammaphefaaGreatDoorSGroup
import Derived.Test.YtoindammaphefaaGreatDoorOpenG
import Derived.Carry
import Derived.OpenVars
import Derived.Test.YtoindammaphefaaGreatDoorCards
import Derived.Test.YtoindammaphefaaGreatDoorTie
import Derived.ProofKit
import Derived.OpenShut
import Derived.Lay
import Derived.LaidMore
import Derived.LaidOnce
import Derived.Stop.Joined
import Derived.Stop.LaidErr
import Derived.Lib.LaidTab
import Derived.SizedLaws
import Derived.SevenTiedAt
/- String of whatever the parser hands back: the text that the package writes. -/
namespace Go.Proofs.YtoindammaphefaaGreatDoor
open Go.RowKit

theorem smeth_tag (r : ByteArray) (W : World) : (method 331 96 (.agg #[.string r]) "String").run Tryz.prog W = .ok (132, .agg #[.string r]) W := by kernel_rfl
theorem smeth_id (r : ByteArray) (W : World) : (method 331 100 (.agg #[.string r]) "String").run Tryz.prog W = .ok (136, .agg #[.string r]) W := by kernel_rfl
theorem smeth_cls (r : ByteArray) (W : World) : (method 331 104 (.agg #[.string r]) "String").run Tryz.prog W = .ok (144, .agg #[.string r]) W := by kernel_rfl
theorem smeth_attr (r r1 r2 : ByteArray) (b : Bool) (W : World) : (method 331 108 (.agg #[.string r, .string r1, .string r2, .bool b]) "String").run Tryz.prog W = .ok (148, .agg #[.string r, .string r1, .string r2, .bool b]) W := by kernel_rfl
theorem smeth_nth (a b : Int) (l o : Bool) (W : World) : (method 331 129 (.agg #[.int .i64 a, .int .i64 b, .bool l, .bool o]) "String").run Tryz.prog W = .ok (162, .agg #[.int .i64 a, .int .i64 b, .bool l, .bool o]) W := by kernel_rfl
theorem smeth_empty (W : World) : (method 331 134 (.agg #[]) "String").run Tryz.prog W = .ok (168, .agg #[]) W := by kernel_rfl
theorem smeth_root (W : World) : (method 331 135 (.agg #[]) "String").run Tryz.prog W = .ok (170, .agg #[]) W := by kernel_rfl
theorem smeth_rel (r : ByteArray) (v : Value) (W : World) : (method 331 121 (.agg #[.string r, v]) "String").run Tryz.prog W = .ok (156, .agg #[.string r, v]) W := by kernel_rfl
theorem smeth_comp (v : Value) (r : ByteArray) (W : World) : (method 331 114 (.agg #[v, .string r]) "String").run Tryz.prog W = .ok (152, .agg #[v, .string r]) W := by kernel_rfl
theorem smeth_comb (f s : Value) (j : Int) (W : World) : (method 331 91 (.agg #[f, .int .u8 j, s]) "String").run Tryz.prog W = .ok (127, .agg #[f, .int .u8 j, s]) W := by kernel_rfl
theorem scall_tag (u : Value) (W : World) : (callFunc 132 #[u]).run Tryz.prog W = .ok (.enter 132 #[u]) W := by kernel_rfl
theorem scall_id (u : Value) (W : World) : (callFunc 136 #[u]).run Tryz.prog W = .ok (.enter 136 #[u]) W := by kernel_rfl
theorem scall_cls (u : Value) (W : World) : (callFunc 144 #[u]).run Tryz.prog W = .ok (.enter 144 #[u]) W := by kernel_rfl
theorem scall_attr (u : Value) (W : World) : (callFunc 148 #[u]).run Tryz.prog W = .ok (.enter 148 #[u]) W := by kernel_rfl
theorem scall_nth (u : Value) (W : World) : (callFunc 162 #[u]).run Tryz.prog W = .ok (.enter 162 #[u]) W := by kernel_rfl
theorem scall_empty (u : Value) (W : World) : (callFunc 168 #[u]).run Tryz.prog W = .ok (.enter 168 #[u]) W := by kernel_rfl
theorem scall_root (u : Value) (W : World) : (callFunc 170 #[u]).run Tryz.prog W = .ok (.enter 170 #[u]) W := by kernel_rfl
theorem scall_rel (u : Value) (W : World) : (callFunc 156 #[u]).run Tryz.prog W = .ok (.enter 156 #[u]) W := by kernel_rfl
theorem scall_comp (u : Value) (W : World) : (callFunc 152 #[u]).run Tryz.prog W = .ok (.enter 152 #[u]) W := by kernel_rfl
theorem scall_comb (u : Value) (W : World) : (callFunc 127 #[u]).run Tryz.prog W = .ok (.enter 127 #[u]) W := by kernel_rfl

theorem compS0 (A : Option Addr) (c : Nat) (W : World) : Calls Tryz.prog 152 #[.agg #[.slice A 0 c, .string ByteArray.empty]] W fun e w' => TxtEnd [42] W e w' := by
  go_enter Tryz.func152, Tryz.ntmps152
  go_wp2_with fail
  go_ret
  exact ⟨_, rfl, rfl, (Below.refl _ _).alloc (Nat.le_refl _) _⟩

/-- String of the group v. -/
def GrpS (w : World) (P : Nat → Prop) (d : Nat) : Prop := ∀ v l, GrpV w P d v l → grpOK d l → ∀ W : World, Alike P w W → TabZ W → Calls Tryz.prog 23 #[v] W fun e w' => TxtEnd (grpT true d l) W e w'
theorem TxtEnd.eq {t t' : List UInt8} (h : t = t') {w : World} {K : FuncId} {a : Array Value} (hc : Calls Tryz.prog K a w fun e w' => TxtEnd t w e w') : Calls Tryz.prog K a w fun e w' => TxtEnd t' w e w' := h ▸ hc
theorem slen (s : ByteArray) (h : nameOK s.data.toList = true) : s.size ≤ 1000 := by
  have := nameOK_len h
  have e : s.data.toList.length = s.size := (size_of_data rfl).symm
  omega
theorem parts_sels {G : Grp → List UInt8} {Q : Grp → Prop} {l : List Sim} (h : partsOK Q l) : partsT true G l = if sels l = [] then [42] else (sels l).flatMap (simT true G) := by
  obtain ⟨h1, _, h3⟩ := h
  match l, h1 with
  | [s], _ =>
    by_cases hk : s.kind = 1
    · have e : sels [s] = [] := by simp [sels, hk]
      rw [if_pos e]
      simp [partsT, shown, simT, hk]
    · have e : sels [s] = [s] := by simp [sels, hk]
      rw [if_neg (by rw [e]; simp), e]
      rfl
  | s :: t :: r, _ =>
    have hall : ∀ x ∈ t :: r, ¬ x.kind = 1 := fun x hx => by
      obtain ⟨k, hk⟩ := List.mem_iff_getElem?.1 hx
      have := (h3 (k + 1) x (by simpa using hk)).2 (by omega)
      omega
    have e2 : sels (t :: r) = t :: r := by
      unfold sels
      rw [List.filter_eq_self]
      intro x hx
      simpa using hall x hx
    by_cases hk : s.kind = 1
    · have e : sels (s :: t :: r) = t :: r := (show sels (s :: t :: r) = sels (t :: r) by unfold sels; rw [List.filter_cons_of_neg (by simp [hk])]).trans e2
      rw [if_neg (by rw [e]; simp), e]
      simp [partsT, shown, hk]
    · have e : sels (s :: t :: r) = s :: t :: r := by
        have : sels (s :: t :: r) = s :: sels (t :: r) := by unfold sels; rw [List.filter_cons_of_pos (by simp [hk])]
        rw [this, e2]
      rw [if_neg (by rw [e]; simp), e]
      simp [partsT, shown, hk]
theorem cpxV_ne {C : Value → List Sim → Prop} {v : Value} {c : Cpx} (h : CpxV C v c) : c ≠ [] := by cases h <;> simp
theorem cpxT_snoc (m : Bool) (G : Grp → List UInt8) {c : Cpx} (hc : c ≠ []) (p : Cmp) : cpxT m G (c ++ [p]) = cpxT m G c ++ cmpT m G p := by
  match c, hc with
  | q :: c, _ => simp [cpxT]
theorem joinT_ok {j : ByteArray} (h : joinOK j) : joinT true j.data.toList = [32, UInt8.ofNat (joinB j).toNat, 32] ∧ (joinB j = 32 ∨ joinB j = 62 ∨ joinB j = 43 ∨ joinB j = 126) := by
  rcases h with rfl | rfl | rfl | rfl <;> decide
theorem listT_join (T : Cpx → List UInt8) (l : Grp) : listT T l = Lib.join (l.map T) [44, 32] := by
  cases l with
  | nil => rfl
  | cons c l => rw [List.map_cons, Lib.join_cons]; simp [listT, Lib.joinTail, List.flatMap_def, Function.comp_def]
section
variable {w : World} {P : Nat → Prop} {d : Nat}
theorem sim_smeth (hP : ∀ b, P b → b < w.heap.size) (hG : GrpS w P d) (hd : lenG d ≤ 200000) {v : Value} {s : Sim} (h : SimV (GrpV w P d) v s) (hs : simOK (grpOK d) s) (hk : s.kind ≠ 1) : SMeth w P v (simT true (grpT true d) s) := by
  rcases hs.2.2 with ⟨h1, hn⟩ | h1 | ⟨h1, hn, hv⟩ | ⟨h1, ha1, ha2, hb1, hb2⟩ | ⟨h1, hg⟩
  · have hz := slen s.name hn
    rcases h1 with h1 | h1 | h1 | h1
    · exact ⟨_, _, _, _, h.tag h1, smeth_tag _, scall_tag _, fun W _ _ => TxtEnd.eq (by simp [simT, h1]) (tagS _ W)⟩
    · exact ⟨_, _, _, _, h.id h1, smeth_id _, scall_id _, fun W _ _ => TxtEnd.eq (by simp [simT, h1]) (idS _ hz W)⟩
    · exact ⟨_, _, _, _, h.cls h1, smeth_cls _, scall_cls _, fun W _ _ => TxtEnd.eq (by simp [simT, h1]) (clsS _ hz W)⟩
    · exact ⟨_, _, _, _, h.has h1, smeth_attr _ _ _ _, scall_attr _, fun W _ _ => TxtEnd.eq (by simp [simT, h1]) (hasS _ hz W)⟩
  · rcases h1 with h1 | h1 | h1
    · exact absurd h1 hk
    · exact ⟨_, _, _, _, h.empty h1, smeth_empty, scall_empty _, fun W _ _ => TxtEnd.eq (by simp [simT, h1]) (emptyS W)⟩
    · exact ⟨_, _, _, _, h.root h1, smeth_root, scall_root _, fun W _ _ => TxtEnd.eq (by simp [simT, h1]) (rootS W)⟩
  · have hz := slen s.name hn
    have e : simT true (grpT true d) s = attrT s := by
      unfold simT
      rw [if_neg (by omega), if_neg (by omega), if_neg (by omega), if_neg (by omega), if_neg (by omega), if_neg (by omega), if_neg (by omega), if_neg (by omega), if_neg (by omega)]
    have hol := opT_len s.kind
    exact ⟨_, _, _, _, h.attr h1, smeth_attr _ _ _ _, scall_attr _, fun W _ _ => TxtEnd.eq (by rw [e, bs_data]; rfl)
      (attrS s.name s.value (bs (opT s.kind)) s.fold hz (by have := hv.1; omega) (by rw [size_of_data (bs_data _)]; exact hol) (by rw [bs_data]; unfold opT; repeat' split <;> try simp) W)⟩
  · exact ⟨_, _, _, _, h.nth h1, smeth_nth _ _ _ _, scall_nth _, fun W _ hT => TxtEnd.eq (by simp [simT, h1]) (nthS s.a s.b s.last s.ofType ha1 ha2 hb1 hb2 W hT)⟩
  · obtain ⟨x, hx, hg2⟩ := h.rel h1
    obtain ⟨A, n, c, rfl⟩ := hg2.slice
    have e : simT true (grpT true d) s = 58 :: (relName s.kind ++ (40 :: (grpT true d s.subs ++ [41]))) := by
      unfold simT
      rw [if_neg (by omega), if_neg (by omega), if_neg (by omega), if_neg (by omega), if_neg (by omega), if_neg (by omega), if_neg (by omega), if_neg (by omega), if_pos h1]
    have hrn : (relName s.kind).length ≤ 3 := by unfold relName; split <;> decide
    exact ⟨_, _, _, _, hx, smeth_rel _ _, scall_rel _, fun W hW hT => TxtEnd.eq (by rw [e, bs_data])
      (relS A n c (bs (relName s.kind)) (grpT true d s.subs) (by rw [size_of_data (bs_data _)]; omega) (Nat.le_trans (grp_len true hg) (by omega)) W
        fun W' hb => hG _ s.subs hg2 hg W' (hW.trans (Alike.below hb fun b hb => by
          have h1 := hW b hb
          rw [Array.getElem?_eq_getElem (hP b hb)] at h1
          exact (Array.getElem?_eq_some_iff.1 h1).1)) (hT.below hb))⟩
theorem alike_lt (hP : ∀ b, P b → b < w.heap.size) {W : World} (hW : Alike P w W) (b : Nat) (hb : P b) : b < W.heap.size := by
  have h1 := hW b hb
  rw [Array.getElem?_eq_getElem (hP b hb)] at h1
  exact (Array.getElem?_eq_some_iff.1 h1).1
theorem cmp_smeth (hP : ∀ b, P b → b < w.heap.size) (hG : GrpS w P d) (hd : lenG d ≤ 200000) {v : Value} {l : List Sim} (h : CmpV (GrpV w P d) w P v l) (hl : partsOK (grpOK d) l) : SMeth w P v (partsT true (grpT true d) l) := by
  have hmem : ∀ s ∈ sels l, simOK (grpOK d) s ∧ s.kind ≠ 1 := fun s hs => by
    obtain ⟨h1, h2⟩ := sels_mem hs
    obtain ⟨k, hk⟩ := List.mem_iff_getElem?.1 h1
    exact ⟨(hl.2.2 k s hk).1, h2⟩
  have hpl := parts_len (m := true) (G := grpT true d) hl fun l hl => grp_len true hl
  have hps := parts_sels (G := grpT true d) hl
  rcases h with ⟨s, h1, h2⟩ | ⟨h0, x, h2, h3⟩
  · have hs := hmem s (by rw [h1]; simp)
    rw [hps, h1, if_neg (by simp)]
    simpa using sim_smeth hP hG hd h2 hs.1 hs.2
  · by_cases he : sels l = []
    · rw [hps, if_pos he]
      rw [he] at h3
      obtain ⟨A, c, rfl, _⟩ := h3
      exact ⟨_, _, _, _, h2, smeth_comp _ _, scall_comp _, fun W _ _ => compS0 A c W⟩
    · rw [if_neg he] at hps
      have hrow : RowS (simT true (grpT true d)) w P x (sels l) := Row.turn h3 (fun _ h => h) (Alike.refl _ _) fun f s hs hf => by
        obtain ⟨y, hy, hv⟩ := hf
        exact ⟨y, hy, sim_smeth hP hG hd hv (hmem s hs).1 (hmem s hs).2⟩
      have hlen : (sels l).length ≤ 4 := Nat.le_trans (List.length_filter_le _ _) hl.2.1
      have hlen1 : 1 ≤ (sels l).length := by
        cases hh : sels l with
        | nil => exact absurd hh he
        | cons a r => simp
      have ej : Lib.join ((sels l).map (simT true (grpT true d))) [] = partsT true (grpT true d) l := by rw [join_flat, hps, List.flatMap_def]
      exact ⟨_, _, _, _, h2, smeth_comp _ _, scall_comp _, fun W hW hT => TxtEnd.eq ej (compS _ w P x (sels l) hrow (by rw [ej]; omega) hlen hlen1 W (alike_lt hP hW) hW hT)⟩
theorem cpx_smeth (hP : ∀ b, P b → b < w.heap.size) (hG : GrpS w P d) (hd : lenG d ≤ 200000) {v : Value} {c : Cpx} (h : CpxV (CmpV (GrpV w P d) w P) v c) :
    (∀ k p, c[k]? = some p → partsOK (grpOK d) p.2 ∧ (0 < k → joinOK p.1)) → c.length ≤ 4 → SMeth w P v (cpxT true (grpT true d) c) ∧ (cpxT true (grpT true d) c).length ≤ c.length * 1000000 := by
  induction h with
  | one h =>
    rename_i v p
    intro hc _
    have hp := (hc 0 p rfl).1
    have hpl := parts_len (m := true) (G := grpT true d) hp fun l hl => grp_len true hl
    have e : cpxT true (grpT true d) [p] = partsT true (grpT true d) p.2 := by simp [cpxT]
    rw [e]
    exact ⟨cmp_smeth hP hG hd h hp, by simp; omega⟩
  | more hf hs ih =>
    rename_i f s c p
    intro hc hl
    have hne := cpxV_ne hf
    have hpos : 0 < c.length := List.length_pos_iff.2 hne
    have hlc : c.length ≤ 4 := by simp at hl; omega
    obtain ⟨m1, z1⟩ := ih (fun k q hk => hc k q (by rw [List.getElem?_append_left (List.getElem?_eq_some_iff.1 hk).1]; exact hk)) hlc
    have hp := hc c.length p (by simp)
    have hpl := parts_len (m := true) (G := grpT true d) hp.1 fun l hl => grp_len true hl
    have m2 := cmp_smeth hP hG hd hs hp.1
    obtain ⟨ej, hj⟩ := joinT_ok (hp.2 hpos)
    have e : cpxT true (grpT true d) (c ++ [p]) = cpxT true (grpT true d) c ++ 32 :: UInt8.ofNat (joinB p.1).toNat :: 32 :: partsT true (grpT true d) p.2 := by
      rw [cpxT_snoc true _ hne, cmpT, ej]; simp
    have z2 : c.length * 1000000 ≤ 4000000 := by omega
    refine ⟨?_, ?_⟩
    · rw [e]
      exact ⟨_, _, _, _, rfl, smeth_comb _ _ _, scall_comb _, fun W hW hT => combS w P f s _ _ _ m1 m2 hj (by omega) (by omega) W (alike_lt hP hW) hW hT⟩
    · rw [e]; simp; omega
theorem grpS_step (hP : ∀ b, P b → b < w.heap.size) (hG : GrpS w P d) (hd : lenG d ≤ 200000) : GrpS w P (d + 1) := by
  intro v l hv hl W hW hT
  have hrow : RowS (cpxT true (grpT true d)) w P v l := Row.turn hv (fun _ h => h) (Alike.refl _ _) fun f c hc hf => by
    obtain ⟨x, hx, hv⟩ := hf
    have hco := hl.2.2 c hc
    exact ⟨x, hx, (cpx_smeth hP hG hd hv hco.2.2 hco.2.1).1⟩
  have ej : Lib.join (l.map (cpxT true (grpT true d))) [44, 32] = grpT true (d + 1) l := (listT_join _ l).symm
  have hz : (grpT true (d + 1) l).length ≤ 140737488355328 := Nat.le_trans (grp_len true hl) (by show 3 * (16 * (lenG d + 80) + 2) ≤ _; omega)
  have h3 := hl.2.1
  refine TxtEnd.eq ej (groupS _ w P v l hrow (ej ▸ hz) (by omega) hl.1 W (alike_lt hP hW) hW hT)
theorem grpS_all (hP : ∀ b, P b → b < w.heap.size) : ∀ d, d ≤ 3 → GrpS w P d := by
  intro d
  induction d with
  | zero => intro _ v l h; exact h.elim
  | succ d ih =>
    intro hd
    refine grpS_step hP (ih (by omega)) ?_
    rcases (by omega : d = 0 ∨ d = 1 ∨ d = 2) with rfl | rfl | rfl <;> decide
end
end Go.Proofs.YtoindammaphefaaGreatDoor
/- The walks of ZZString, of the thin package's Text and of laws.FnTextTwice: the law returns true for every group of selectors. Conditions: Itoa's table is as the library lays it; the sizes that any slice has. -/
namespace Go.Proofs.YtoindammaphefaaGreatDoor
open Go.RowKit

/-- A text and no error. -/
def TwoEnd (x : Value) (t : List UInt8) (w : World) (e : Ending) (w' : World) : Prop := ∃ r : ByteArray, e = .returned (.tuple #[.string r, x]) ∧ r.data.toList = t ∧ Below w.heap.size w w'
set_option maxHeartbeats 4000000 in
set_option maxRecDepth 100000 in
theorem zzString_any (m : Bool) (s : ByteArray) (l : Grp) (w : World) (hs : s.size ≤ 140737488351232) (hl : grpOK 3 l) (hT : s.data.toList = grpT m 3 l) (hZ : TabZ w) :
    Calls Tryz.prog 15 #[.string s, .bool false] w fun e w' => TwoEnd .nilIface (grpT true 3 l) w e w' := by
  have HPA := Lib.hid (fun W => parseG_any m 3 s l W hs (by decide) hl hT)
  have HL := Lib.hid hl
  have HZ := Lib.hid hZ
  clear hl hT hs hZ
  go_enter Tryz.func15, Tryz.ntmps15
  go_wp2_with fail
  refine (HPA.out _).mono ?_
  rintro e w1 ⟨v, rfl, hv, hb⟩
  have hPl : ∀ b, New w w1 b → b < w1.heap.size := fun b hb => hb.2
  have HG := Lib.hid (grpS_all hPl 3 (Nat.le_refl _) v l hv HL.out w1 (Alike.refl _ _) (HZ.out.below hb))
  have HB := Lib.hid hb
  obtain ⟨A, n, c, rfl⟩ := hv.slice
  clear hv hb hPl
  go_wp2_with fail
  refine HG.out.mono ?_
  rintro e w2 ⟨r, rfl, hr, hb2⟩
  have HB2 := Lib.hid (HB.out.trans (hb2.mono HB.out.size))
  have HR := Lib.hid hr
  clear hr hb2
  go_wp2_with fail
  go_ret2
  exact ⟨r, rfl, HR.out, HB2.out⟩
set_option maxHeartbeats 4000000 in
set_option maxRecDepth 100000 in
theorem iText_any (m : Bool) (s : ByteArray) (l : Grp) (w : World) (hs : s.size ≤ 140737488351232) (hl : grpOK 3 l) (hT : s.data.toList = grpT m 3 l) (hZ : TabZ w) :
    Calls Tryz.prog 10 #[.string s] w fun e w' => TwoEnd (.bool true) (grpT true 3 l) w e w' := by
  have HC := Lib.hid (zzString_any m s l w hs hl hT hZ)
  clear hs hl hT hZ
  go_enter Tryz.func10, Tryz.ntmps10
  go_wp2_with fail
  refine HC.out.mono ?_
  rintro e w1 ⟨r, rfl, hr, hb⟩
  have HB := Lib.hid hb
  have HR := Lib.hid hr
  clear hr hb
  go_wp2_with fail
  go_quiet (fail)
  go_wp2_with fail
  go_ret2
  exact ⟨r, rfl, HR.out, below_drewN' HB.out _⟩
set_option maxHeartbeats 4000000 in
set_option maxRecDepth 100000 in
theorem lawText (D : Nat) (v : Value) (l : Grp) (w : World) (hv : GrpIn w (fun b => b < w.heap.size) D v l) (hs : smallG D l) (hZ : TabZ w) :
    Calls Tryz.prog 4 #[v] w fun e w' => e = .returned (.bool true) ∧ Below w.heap.size w w' := by
  obtain ⟨A, c0, rfl⟩ := hv.slice
  by_cases z1 : 2147483647 < (l.length : Int)
  · clear hv hs
    go_enter Tryz.func4, Tryz.ntmps4
    go_wp2_with fail
    go_ret
    exact ⟨rfl, Below.refl _ _⟩
  have HG := Lib.hid (group_mk_any D w _ _ l hv hs fun b hb => hb)
  have HS := Lib.hid hs
  have HZ := Lib.hid hZ
  clear hv hs hZ
  go_enter Tryz.func4, Tryz.ntmps4
  go_wp2_with fail
  refine HG.out.mono ?_
  rintro e w1 ⟨v1, rfl, hv1, hb1⟩
  obtain ⟨A1, c1, rfl⟩ := hv1.slice
  have hP1 : ∀ b, New w w1 b → b < w1.heap.size := fun b hb => hb.2
  have HGC := Lib.hid (group_any 3 (by decide) (by decide) D w1 _ _ l hv1 HS.out hP1)
  have HV1 := Lib.hid hv1
  have HB1 := Lib.hid hb1
  clear hv1 hb1 hP1
  go_wp2_with fail
  refine HGC.out.mono ?_
  rintro e w2 ⟨b, rfl, hb2, hok⟩
  have hb12 := HB1.out.trans (hb2.mono HB1.out.size)
  rcases b with _ | _
  · clear hok HGC
    have HB := Lib.hid hb12
    clear hb12 hb2
    go_wp2_with fail
    go_ret
    exact ⟨rfl, HB.out⟩
  have hok := hok rfl
  have hv2 : GrpIn w2 (New w w2) D (.slice A1 l.length c1) l := HV1.out.turn (fun b hb => ⟨hb.1, Nat.lt_of_lt_of_le hb.2 hb2.size⟩) (Alike.below hb2 fun b hb => hb.2)
  have hP2 : ∀ b, New w w2 b → b < w2.heap.size := fun b hb => hb.2
  have HW := Lib.hid (writeG_any 3 (by decide) D w2 _ _ l hv2 hP2 hok)
  have HOK := Lib.hid hok
  have HB2 := Lib.hid hb12
  clear hok hv2 hP2 hb12 hb2 HGC HV1 HB1
  go_wp2_with fail
  refine HW.out.mono ?_
  rintro e w3 ⟨r, rfl, hr, hb3⟩
  have hrs : r.size ≤ 140737488351232 := by
    rw [size_of_data hr]
    exact Nat.le_trans (grp_len false HOK.out) (by decide)
  have hb03 := HB2.out.trans (hb3.mono HB2.out.size)
  have HI := Lib.hid (iText_any false r l w3 hrs HOK.out hr (HZ.out.below hb03))
  have HB3 := Lib.hid hb03
  clear hr hrs hb3 HW HB2 hb03
  go_wp2_with fail
  refine HI.out.mono ?_
  rintro e w4 ⟨r1, rfl, hr1, hb4⟩
  have hrs1 : r1.size ≤ 140737488351232 := by
    rw [size_of_data hr1]
    exact Nat.le_trans (grp_len true HOK.out) (by decide)
  have hb04 := HB3.out.trans (hb4.mono HB3.out.size)
  have HI2 := Lib.hid (iText_any true r1 l w4 hrs1 HOK.out hr1 (HZ.out.below hb04))
  have HB4 := Lib.hid hb04
  have HR1 := Lib.hid hr1
  clear hr1 hrs1 hb4 HI HB3 hb04
  go_wp2_with fail
  refine HI2.out.mono ?_
  rintro e w5 ⟨r2, rfl, hr2, hb5⟩
  obtain rfl : r1 = r2 := eq_of_data (by rw [hr2, HR1.out])
  have HB5 := Lib.hid (HB4.out.trans (hb5.mono HB4.out.size))
  clear hr2 hb5 HI2
  go_wp2_with fail
  go_ret
  exact ⟨rfl, HB5.out⟩
end Go.Proofs.YtoindammaphefaaGreatDoor
namespace Go.Proofs.YtoindammaphefaaGreatDoor.fnTextTwice
open Go.ChangeShapes Go.WideShapes Go.ChangeAt Go.RowKit
set_option linter.unusedVariables false

theorem own : ownKnob Tryz.prog.godebug = none := by kernel_rfl
theorem laidOut : laidOutB Tryz.prog = true := by kernel_rfl

/-- The laid tables meet the condition. -/
theorem laid_met (os : Os) : laidMetH Tryz.prog Rows.fnTextTwiceRow.laid ((World.laidAll Tryz.prog os Rows.fnTextTwiceRow.laid).forCall (fun _ _ => 0) ⟨#[], #[.slice none 0 0], []⟩).memory := by
  rw [MakeChecks.laidMetH_plain _ _ _ (by kernel_rfl)]
  exact laidMet_laidAll _ (by kernel_rfl) (by kernel_rfl)

theorem tab_of {W : World} (h : laidMetH Tryz.prog Rows.fnTextTwiceRow.laid W) : TabZ W := by
  rw [MakeChecks.laidMetH_plain _ _ _ (by kernel_rfl)] at h
  have h2 : laidMet Tryz.prog (("internal/strconv.uint64pow10", Lib.tabData .u64 Lib.pow10Tab) :: (Rows.fnTextTwiceRow.laid.drop 3)) W := h.tail.tail
  exact Lib.tabIs_of_head (g := 9) (n := 20) (by kernel_rfl) (by kernel_rfl) Tryz.underlying200 Tryz.underlying154 (by kernel_rfl) (by kernel_rfl) h2
set_option maxRecDepth 100000 in
theorem lifted (os : Os) (started : os.Started) (H : Type) (enc : TypeId × Value → H) :
    ReturnsInHanded {} Tryz.checked os 4 .any (fun w args => (Rows.fnTextTwiceSpec.pre enc Tryz.prog Tryz.f4 [] false w args ∧ laidMetH Tryz.prog Rows.fnTextTwiceRow.laid w) ∧ sizedMet enc Tryz.prog Tryz.f4 (OpenSpec.ofChange Rows.fnTextTwiceSpec) false w args)
      (Rows.fnTextTwiceSpec.post enc Tryz.prog Tryz.f4 false true false false) := by
  refine returnsInHanded_of_change_and (C := Tryz.checked) (X := fun w _ => laidMetH Tryz.prog Rows.fnTextTwiceRow.laid w) (fun _ _ _ hh h => h.of_heap hh) own started (by kernel_rfl) Tryz.func4
    (ChangeSpec.witness_shaped (enc := enc) (C := Tryz.checked) (os := os) (X := fun w _ => laidMetH Tryz.prog Rows.fnTextTwiceRow.laid w) false (World.laidAll Tryz.prog os Rows.fnTextTwiceRow.laid) #[.slice none 0 0] 8 (World.laidAll_os _ _ _)
      (World.shaped_of_ZipB (by kernel_rfl) (by kernel_rfl)) (by kernel_rfl) (by kernel_rfl) (by kernel_rfl) (laid_met os)) ?_
  intro W base args ds gs before hval0 hW _ hsz hL _
  have hval : ∀ (j : Nat) t v, Tryz.f4.params[j]? = some t → args[j]? = some v → Value.okWide Tryz.prog W .any base t v := hval0
  have hW' := hW
  obtain ⟨p, q, hA0, hV, rfl, hfz, hnd⟩ := hW
  have hA : DataW.TrodAll enc Tryz.prog W 0 (fun _ => true) true Tryz.f4.params.toList args.toList ds p := hA0
  rw [Tryz.params4] at hA hval hsz
  obtain ⟨v0, d0, rfl, rfl, h0⟩ := trodAll_one hA
  have h0k := h0
  have hlt : ∀ x ∈ p, x.block < W.heap.size := fun x hx => by simpa using hW'.lt x (by simp [hx])
  obtain ⟨g1, g2, g3, rfl⟩ : ∃ g1 g2 g3, gs = [g1, g2, g3] := by
    rcases gs with _ | ⟨g1, _ | ⟨g2, _ | ⟨g3, _ | ⟨g4, gs⟩⟩⟩⟩
    · exact hV.elim
    · obtain ⟨_, _, _, _, _, _, _, _, _, _, h, _⟩ := hV
      exact h.elim
    · obtain ⟨_, _, _, _, _, _, _, _, _, _, h, _⟩ := hV
      obtain ⟨_, _, _, _, _, _, _, _, _, _, h, _⟩ := h
      exact h.elim
    · exact ⟨_, _, _, rfl⟩
    · obtain ⟨_, _, _, _, _, _, _, _, _, _, h, _⟩ := hV
      obtain ⟨_, _, _, _, _, _, _, _, _, _, h, _⟩ := h
      obtain ⟨_, _, _, _, _, _, _, _, _, _, h, _⟩ := h
      exact h.elim
  obtain ⟨A0, n0, c0, rfl⟩ := okWide_slice Tryz.underlying22 (hval 0 22 v0 rfl rfl)
  obtain ⟨fuel, hf0⟩ := h0
  obtain ⟨l, htre, hsm⟩ := open_group fuel fuel (Nat.le_refl _) _ _ hf0
  have z0 : smallG fuel l := hsm fun n hn => by
    have h := List.all_eq_true.1 hsz n (DataW.weights_mem_each (j := 0) (t := 22) (d := d0) rfl rfl n hn)
    simpa using h
  clear hA0 hval0
  refine (lawText fuel _ l W htre z0 (tab_of hL)).mono fun e W' ⟨he, bel⟩ => ?_
  subst he
  exact ⟨_, rfl, _, _, _, [], _, q, hW', trodAll_mk1 (shut_bool Tryz.underlying4 _), (trodAll_cons_mk (Below.trod laidOut (by kernel_rfl) (of_decide_eq_true (by kernel_rfl)) h0k bel hlt) trodAll_mk0), bel.trodVars laidOut (by kernel_rfl) hV, bel.frame _, fun h => by cases h⟩

theorem over : Rows.FnTextTwiceSaid :=
  OpenClaim.holds_of_wide 4 Tryz.f4 rfl rfl rfl rfl rfl rfl rfl ⟨rfl, rfl, rfl, rfl, rfl⟩ rfl rfl rfl rfl rfl (by kernel_rfl) Tryz.func4 (by kernel_rfl)
    (of_decide_eq_true (by kernel_rfl)) (by unfold Func.isWrapper; first | (rw [if_pos (by decide +kernel)]; kernel_rfl) | (rw [if_neg (by decide +kernel)]; exact ⟨rfl, rfl⟩))
    (fun os started H enc _ => lifted os started H enc)

theorem card_holds : Rows.FnTextTwiceCardSaid :=
  Claim7.holds_tied_plain_at .later [] Rows.fnTextTwiceCard.laidKinds true Rows.fnTextTwiceCard.stood.harness true
    over (fun _ h => by cases h) (by kernel_rfl) (fun _ h => by cases h) fnTextTwice_row_tie rfl ⟨rfl, rfl⟩ (by kernel_rfl) rfl
    (fun f fn hf hfn => by
      obtain rfl : f = 4 := Option.some.inj ((show Tryz.prog.funcNamed Rows.fnTextTwiceRow.func = some 4 by kernel_rfl).symm.trans hf) |>.symm
      obtain rfl : fn = Tryz.f4 := (Option.some.inj (Tryz.func4.symm.trans hfn)).symm
      exact ⟨by kernel_rfl, fun j t ht => by
        rw [Tryz.params4] at ht
        have hm : t ∈ [22] := by simpa using Array.mem_of_getElem? ht
        have hall : ([22].all fun u => !Tryz.prog.wantsStandIn u) = true := by kernel_rfl
        exact (show Tryz.prog.wantsStandIn t = false by simpa using List.all_eq_true.1 hall t hm)⟩)
    (by kernel_rfl)
#print axioms card_holds
end Go.Proofs.YtoindammaphefaaGreatDoor.fnTextTwice
