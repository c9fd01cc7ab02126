/- Names as they are written, byte by byte, escaped or not; plain lemmas on lists and strings, and on a world whose parser has moved. No program in sight but for the classes of bytes. -/
import Derived.Test.YtoindammaphefaaGreatDoorEscape
namespace Go.Proofs.YtoindammaphefaaGreatDoor
open Go.RowKit

/-- How a name's bytes are written: (true, c) stands for a backslash and c. -/
def wrt : List (Bool × UInt8) → List UInt8
  | [] => []
  | (true, c) :: r => 92 :: c :: wrt r
  | (false, c) :: r => c :: wrt r
def dec (l : List (Bool × UInt8)) : List UInt8 := l.map (·.2)
def okItem (x : Bool × UInt8) : Prop := (x.1 = true → plainEsc (x.2.toNat : Int)) ∧ (x.1 = false → nameCharB (x.2.toNat : Int) = true)
def okItems (l : List (Bool × UInt8)) : Prop := ∀ x ∈ l, okItem x
/-- What stands behind a name ends it. -/
def stops (rest : List UInt8) : Prop := ∀ c, rest.head? = some c → nameCharB (c.toNat : Int) = false ∧ ¬ c = 92
def plainItems (l : List (Bool × UInt8)) : Prop := ∀ x ∈ l, x.1 = false

theorem wr_append (a b : List (Bool × UInt8)) : wrt (a ++ b) = wrt a ++ wrt b := by
  induction a with
  | nil => rfl
  | cons x a ih => obtain ⟨e, c⟩ := x; cases e <;> simp [wrt, ih]
theorem wr_plain (a : List (Bool × UInt8)) (h : plainItems a) : wrt a = dec a := by
  induction a with
  | nil => rfl
  | cons x a ih =>
    obtain ⟨e, c⟩ := x
    have he : e = false := h (e, c) (by simp)
    subst he
    simp [wrt, dec]
    exact ih (fun y hy => h y (by simp [hy]))
theorem okItems_append {a b : List (Bool × UInt8)} : okItems (a ++ b) ↔ okItems a ∧ okItems b := by
  simp only [okItems, List.mem_append]
  exact ⟨fun h => ⟨fun x hx => h x (Or.inl hx), fun x hx => h x (Or.inr hx)⟩, fun h x hx => hx.elim (h.1 x) (h.2 x)⟩

/-- The bytes of a string from place k on. -/
theorem drop_lt {s : ByteArray} {k : Nat} {c : UInt8} {l : List UInt8} (h : s.data.toList.drop k = c :: l) : k < s.size := by
  have : (s.data.toList.drop k).length = l.length + 1 := by rw [h]; rfl
  simp at this
  have e : s.size = s.data.size := rfl
  omega
theorem drop_get {s : ByteArray} {k : Nat} {c : UInt8} {l : List UInt8} (h : s.data.toList.drop k = c :: l) (hk : k < s.size) : s[k] = c := by
  have hk' : k < s.data.toList.length := by simpa using hk
  rw [List.drop_eq_getElem_cons hk'] at h
  have := (List.cons.inj h).1
  rw [← this]
  rfl
theorem drop_next {s : ByteArray} {k : Nat} {c : UInt8} {l : List UInt8} (h : s.data.toList.drop k = c :: l) : s.data.toList.drop (k + 1) = l := by
  rw [← List.drop_drop, h]
  rfl
theorem drop_nil {s : ByteArray} {k : Nat} (h : s.data.toList.drop k = []) : ¬ k < s.size := by
  have : (s.data.toList.drop k).length = 0 := by rw [h]; rfl
  simp at this
  have e : s.size = s.data.size := rfl
  omega
theorem drop_add {s : ByteArray} {k : Nat} {a l : List UInt8} (h : s.data.toList.drop k = a ++ l) : s.data.toList.drop (k + a.length) = l := by
  rw [← List.drop_drop, h]
  simp
theorem drop_le {s : ByteArray} {k : Nat} {a l : List UInt8} (h : s.data.toList.drop k = a ++ l) (ha : 0 < a.length) : k + a.length ≤ s.size := by
  have : (s.data.toList.drop k).length = a.length + l.length := by rw [h]; simp
  simp at this
  have e : s.size = s.data.size := rfl
  omega
theorem extract_of_drop {s : ByteArray} {k : Nat} {a l : List UInt8} (h : s.data.toList.drop k = a ++ l) : (s.extract k (k + a.length)).data.toList = a := by
  simp only [ByteArray.data_extract, Array.toList_extract, List.extract_eq_take_drop]
  rw [h]
  simp

theorem size_of_data {r : ByteArray} {l : List UInt8} (h : r.data.toList = l) : r.size = l.length := by
  rw [← h]
  show r.data.size = r.data.toList.length
  rw [Array.length_toList]
theorem append_data (a b : ByteArray) : (a ++ b).data.toList = a.data.toList ++ b.data.toList := by simp
theorem eq_of_data {a b : ByteArray} (h : a.data.toList = b.data.toList) : a = b := by
  cases a; cases b
  simp only at h
  rw [Array.toList_inj.1 h]

/-! ### A world whose parser has moved -/
theorem setCell_self {w : World} {a : Addr} {v : Value} (h : w.cell? a = some v) : w.setCell a v = w := by
  unfold World.cell? at h
  unfold World.setCell
  cases w with
  | mk heap tape drawn os output =>
    simp only at h ⊢
    congr
    apply Array.ext_getElem?
    intro i
    rw [Array.getElem?_modify]
    by_cases hi : a.block = i
    · subst hi
      rw [if_pos rfl]
      cases hb : heap[a.block]? with
      | none => rfl
      | some o =>
        rw [hb] at h
        cases o <;> simp only [Option.map_some] <;> try (cases h; done)
        rename_i c e f
        by_cases hs : a.spot.isSome = true
        · simp [hs] at h
        · simp [hs] at h ⊢
          obtain ⟨hlt, hv⟩ := Array.getElem?_eq_some_iff.1 h
          apply Array.ext_getElem?
          intro j
          rw [Array.getElem?_setIfInBounds]
          by_cases hj : a.off = j
          · subst hj; simp [hlt, hv]
          · simp [hj]
    · rw [if_neg hi]
theorem setCell_twice (w : World) (a : Addr) (u v : Value) : (w.setCell a u).setCell a v = w.setCell a v := by
  cases w with
  | mk heap tape drawn os output =>
    simp only [World.setCell]
    congr 1
    apply Array.ext_getElem?
    intro i
    simp only [Array.getElem?_modify]
    by_cases hi : a.block = i
    · subst hi
      simp only [if_true]
      cases hb : heap[a.block]? with
      | none => rfl
      | some o =>
        cases o <;> simp only [Option.map_some]
        rename_i c e f
        by_cases hs : a.spot.isSome = true
        · simp only [hs, if_true]
        · simp only [hs]
          simp
    · simp [hi]
theorem setCell_drewN (w : World) (n : Nat) (a : Addr) (v : Value) : (w.drewN n).setCell a v = (w.setCell a v).drewN n := rfl

theorem Moved.start {w : World} {g i : Nat} (h : w.cell? ⟨g, 1, none⟩ = some (.int .i64 i)) : Moved w w g i := ⟨0, by rw [setCell_self h]; rfl⟩
theorem Moved.trans {w w1 w2 : World} {g i j : Nat} (h : Moved w w1 g i) (h' : Moved w1 w2 g j) : Moved w w2 g j := by
  obtain ⟨n, rfl⟩ := h
  obtain ⟨m, rfl⟩ := h'
  exact ⟨n + m, by rw [setCell_drewN, setCell_twice, World.drewN_drewN]⟩
theorem Moved.set {w w1 : World} {g i : Nat} (h : Moved w w1 g i) (j : Nat) : Moved w (w1.setCell ⟨g, 1, none⟩ (.int .i64 j)) g j := h.trans ⟨0, rfl⟩
theorem Moved.of_drewN {w w1 : World} {g i n : Nat} (h : Moved (w.drewN n) w1 g i) : Moved w w1 g i := by
  obtain ⟨m, rfl⟩ := h
  exact ⟨n + m, by rw [setCell_drewN, World.drewN_drewN]⟩
theorem Moved.cell {w w1 : World} {g j : Nat} (h : Moved w w1 g j) {p : Addr} (hp : p ≠ ⟨g, 1, none⟩) : w1.cell? p = w.cell? p := by
  obtain ⟨n, rfl⟩ := h
  exact World.cell?_setCell_other w ⟨g, 1, none⟩ p _ (Ne.symm hp)
theorem Moved.frozen {w w1 : World} {g j : Nat} (h : Moved w w1 g j) (p : Addr) : w1.frozen? p = w.frozen? p := by
  obtain ⟨n, rfl⟩ := h
  exact World.frozen?_setCell w ⟨g, 1, none⟩ p _
theorem Moved.pos {w w1 : World} {g j : Nat} (h : Moved w w1 g j) {v : Value} (c1 : w.cell? ⟨g, 1, none⟩ = some v) : w1.cell? ⟨g, 1, none⟩ = some (.int .i64 j) := by
  obtain ⟨n, rfl⟩ := h
  exact World.cell?_setCell_same w ⟨g, 1, none⟩ _ c1
theorem Moved.facts {w w1 : World} {g j : Nat} {v u : Value} (h : Moved w w1 g j) (c0 : w.cell? ⟨g, 0, none⟩ = some u) (c1 : w.cell? ⟨g, 1, none⟩ = some v) (f1 : w.frozen? ⟨g, 1, none⟩ = false) :
    w1.cell? ⟨g, 0, none⟩ = some u ∧ w1.cell? ⟨g, 1, none⟩ = some (.int .i64 j) ∧ w1.frozen? ⟨g, 1, none⟩ = false :=
  ⟨(h.cell (by intro e; injection e with _ e; cases e)).trans c0, h.pos c1, (h.frozen _).trans f1⟩
theorem Moved.drewN {w w1 : World} {g i : Nat} (h : Moved w w1 g i) (n : Nat) : Moved w (w1.drewN n) g i := by
  obtain ⟨m, rfl⟩ := h
  exact ⟨m + n, by rw [World.drewN_drewN]⟩
end Go.Proofs.YtoindammaphefaaGreatDoor
