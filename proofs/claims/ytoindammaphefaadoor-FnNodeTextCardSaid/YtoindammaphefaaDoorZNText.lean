/- The walks of ZZNodeText, ZZOwnText and of the thin package's NodeText, OwnText. -/
import Derived.Test.YtoindammaphefaaDoorNTextB
import Derived.Test.YtoindammaphefaaDoorEntries
namespace Go.Proofs.YtoindammaphefaaDoor
open Go.RowKit

/-! ### Trees of the same nodes -/
theorem core_len {l l' : List NodeA} (h : l'.map core = l.map core) : l'.length = l.length := by simpa using congrArg List.length h
theorem core_of {l l' : List NodeA} (h : l'.map core = l.map core) (k : Nat) : parOf l' k = parOf l k ∧ kindOf l' k = kindOf l k ∧ datOf l' k = datOf l k := by
  have h1 : (l'.map core)[k]? = (l.map core)[k]? := by rw [h]
  rw [List.getElem?_map, List.getElem?_map] at h1
  unfold parOf kindOf datOf
  cases ha : l'[k]? <;> cases hb : l[k]? <;> rw [ha, hb] at h1
  · simp
  · simp at h1
  · simp at h1
  · simp only [Option.map_some, Option.some.injEq, core, Prod.mk.injEq] at h1
    obtain ⟨h2, h3, h4, _⟩ := h1
    simp [h2, h3, h4]
theorem core_textF {l l' : List NodeA} (h : l'.map core = l.map core) : ∀ f i, textF f l' i = textF f l i := by
  intro f
  induction f with
  | zero => intro i; rfl
  | succ f ih =>
    intro i
    simp only [textF, (core_of h i).2.1, (core_of h i).2.2, core_len h]
    split
    · rfl
    · rw [show (fun k => parOf l' k == (i : Int)) = fun k => parOf l k == (i : Int) from funext fun k => by rw [(core_of h k).1]]
      exact upTo_congr fun k _ _ => ih k
theorem core_text {l l' : List NodeA} (h : l'.map core = l.map core) (i : Nat) : text l' i = text l i := by
  rw [text, text, core_len h, core_textF h]
theorem core_own {l l' : List NodeA} (h : l'.map core = l.map core) (i : Nat) : ownText l' i = ownText l i := by
  unfold ownText
  rw [core_len h, show (fun k => parOf l' k == (i : Int) && kindOf l' k == 1) = fun k => parOf l k == (i : Int) && kindOf l k == 1 from funext fun k => by rw [(core_of h k).1, (core_of h k).2.1]]
  exact upTo_congr fun k _ _ => (core_of h k).2.2
theorem core_fine {l l' : List NodeA} (h : l'.map core = l.map core) (hF : Fine l) : Fine l' := by
  have e := core_len h
  refine ⟨⟨fun k hk => ?_, by rw [e]; exact hF.len, fun k hk h1 => ?_⟩, fun k hk => ?_, fun k hk h0 => ?_, fun k h0 h3 j hj => ?_⟩
  · rw [(core_of h k).1]; exact hF.ord k (by omega)
  · rw [(core_of h k).2.1] at h1; rw [(core_of h k).2.2]; exact hF.dat k (by omega) h1
  · rw [(core_of h k).1]; exact hF.root k (by omega)
  · rw [(core_of h k).2.1]; exact hF.kinds k (by omega) h0
  · rw [(core_of h k).2.1] at h3; rw [(core_of h j).1]; exact hF.leaf k h0 h3 j (by omega)

set_option maxHeartbeats 1000000 in
set_option maxRecDepth 100000 in
theorem zzNodeText_any (v : Value) (l : List NodeA) (w : World) (i : Nat) (hv : Tre .u32 w w.heap.size v l) (hF : Fine l) (hi : i < l.length) (hi0 : i ≠ 0) :
    Calls Tryd.prog 23 #[v, .int .i64 i] w fun e w' => TextEnd (text l i) w e w' := by
  have HZ := Lib.hid (zzTree_any v l w hv hF.len hF.ord hF.root)
  have HF := Lib.hid hF
  obtain ⟨A, c, rfl, _, _⟩ := hv
  have hlen := hF.len
  clear hF
  go_enter Tryd.func23, Tryd.ntmps23
  go_wp2_with fail
  refine HZ.out.mono ?_
  rintro e w2 ⟨v2, rfl, ⟨b, htm, hown⟩, hb⟩
  obtain ⟨A2, c2, rfl, hc2, hat⟩ := own_at hown
  obtain ⟨ad, rfl, _, hcell⟩ := hat i hi
  have HN := Lib.hid (nodeText_any l b HF.out htm.inj i w2 hi hi0 (htm.linked (Nat.le_refl _)))
  clear hat htm hown
  go_wp2_with fail
  refine HN.out.mono ?_
  rintro e w3 ⟨r, rfl, hr, hb3⟩
  go_wp2_with fail
  go_ret
  exact ⟨r, rfl, hr, hb.trans (hb3.mono hb.size)⟩
set_option maxHeartbeats 1000000 in
set_option maxRecDepth 100000 in
theorem zzOwnText_any (v : Value) (l : List NodeA) (w : World) (i : Nat) (hv : Tre .u32 w w.heap.size v l) (hF : Fine l) (hi : i < l.length) :
    Calls Tryd.prog 25 #[v, .int .i64 i] w fun e w' => TextEnd (ownText l i) w e w' := by
  have HZ := Lib.hid (zzTree_any v l w hv hF.len hF.ord hF.root)
  have HF := Lib.hid hF
  obtain ⟨A, c, rfl, _, _⟩ := hv
  have hlen := hF.len
  clear hF
  go_enter Tryd.func25, Tryd.ntmps25
  go_wp2_with fail
  refine HZ.out.mono ?_
  rintro e w2 ⟨v2, rfl, ⟨b, htm, hown⟩, hb⟩
  obtain ⟨A2, c2, rfl, hc2, hat⟩ := own_at hown
  obtain ⟨ad, rfl, _, hcell⟩ := hat i hi
  have HN := Lib.hid (nodeOwnText_any l b HF.out htm.inj i w2 hi (htm.linked (Nat.le_refl _)))
  clear hat htm hown
  go_wp2_with fail
  refine HN.out.mono ?_
  rintro e w3 ⟨r, rfl, hr, hb3⟩
  go_wp2_with fail
  go_ret
  exact ⟨r, rfl, hr, hb.trans (hb3.mono hb.size)⟩
set_option maxHeartbeats 1000000 in
theorem nodeTextI_any (v : Value) (l : List NodeA) (w : World) (i : Nat) (hv : Tre .i64 w w.heap.size v l) (hF : Fine l) (hsa : ∀ n ∈ l, n.attrs.length ≤ 2147483647 ∧ 1 ≤ n.kind ∧ n.kind ≤ 4) (hi : i < l.length) (hi0 : i ≠ 0) :
    Calls Tryd.prog 12 #[v, .int .i64 i] w fun e w' => TextEnd (text l i) w e w' := by
  have HE := Lib.hid (entries_any v l w hv (by have := hF.len; omega) hsa)
  have HF := Lib.hid hF
  clear hF hsa hv
  go_enter Tryd.func12, Tryd.ntmps12
  go_wp2_with fail
  refine HE.out.mono ?_
  rintro e w2 ⟨v2, l2, rfl, hown, hcore, hb⟩
  have HN := Lib.hid (zzNodeText_any v2 l2 w2 i hown.tre (core_fine hcore HF.out) (by rw [core_len hcore]; exact hi) hi0)
  rw [core_text hcore] at HN
  clear hown hcore
  go_wp2_with fail
  refine HN.out.mono ?_
  rintro e w3 ⟨r, rfl, hr, hb3⟩
  go_wp2_with fail
  go_ret
  exact ⟨r, rfl, hr, hb.trans (hb3.mono hb.size)⟩
set_option maxHeartbeats 1000000 in
theorem ownTextI_any (v : Value) (l : List NodeA) (w : World) (i : Nat) (hv : Tre .i64 w w.heap.size v l) (hF : Fine l) (hsa : ∀ n ∈ l, n.attrs.length ≤ 2147483647 ∧ 1 ≤ n.kind ∧ n.kind ≤ 4) (hi : i < l.length) :
    Calls Tryd.prog 14 #[v, .int .i64 i] w fun e w' => TextEnd (ownText l i) w e w' := by
  have HE := Lib.hid (entries_any v l w hv (by have := hF.len; omega) hsa)
  have HF := Lib.hid hF
  clear hF hsa hv
  go_enter Tryd.func14, Tryd.ntmps14
  go_wp2_with fail
  refine HE.out.mono ?_
  rintro e w2 ⟨v2, l2, rfl, hown, hcore, hb⟩
  have HN := Lib.hid (zzOwnText_any v2 l2 w2 i hown.tre (core_fine hcore HF.out) (by rw [core_len hcore]; exact hi))
  rw [core_own hcore] at HN
  clear hown hcore
  go_wp2_with fail
  refine HN.out.mono ?_
  rintro e w3 ⟨r, rfl, hr, hb3⟩
  go_wp2_with fail
  go_ret
  exact ⟨r, rfl, hr, hb.trans (hb3.mono hb.size)⟩
end Go.Proofs.YtoindammaphefaaDoor
