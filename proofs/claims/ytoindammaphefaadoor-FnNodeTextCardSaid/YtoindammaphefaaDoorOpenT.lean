/- A tree that comes in: how it reads, opened to its cells, and how long its parts are at most. -/
import Derived.Test.YtoindammaphefaaDoorNTree
import Derived.Deep.Slices
import Derived.Deep.Fields
import Derived.ChangeSame
import Derived.SizedLaws
namespace Go.Proofs.YtoindammaphefaaDoor
open Go.RowKit Go.ChangeShapes Go.WideShapes Go.Deep

theorem list_of {α : Type} {Q : Nat → α → Prop} : ∀ n : Nat, (∀ i, i < n → ∃ p, Q i p) → ∃ l : List α, l.length = n ∧ ∀ i p, l[i]? = some p → Q i p := by
  intro n
  induction n with
  | zero => intro _; exact ⟨[], rfl, fun i p h => by simp at h⟩
  | succ n ih =>
    intro h
    obtain ⟨l, hl, hq⟩ := ih fun i hi => h i (by omega)
    obtain ⟨p, hp⟩ := h n (by omega)
    refine ⟨l ++ [p], by simp [hl], fun i q hi => ?_⟩
    by_cases hn : i < n
    · rw [List.getElem?_append_left (by omega)] at hi
      exact hq i q hi
    · have hi2 : i = n := by have := (List.getElem?_eq_some_iff.1 hi).1; simp [hl] at this; omega
      subst hi2
      rw [List.getElem?_append_right (by omega)] at hi
      simp [hl] at hi
      subst hi
      exact hp
section
variable {H : Type} {enc : TypeId × Value → H} {P : Program} {w : World} {base : Nat} {sp : Nat → Bool} {held : Bool}
/-- A struct of one-cell fields, field by field. -/
theorem struct_fields {e : TypeId} {fs : Array Field} (he : P.underlying e = some (.struct fs)) (hone : oneCellFields P fs = true) (hC : P.cellsOf e = fs.size) {cs : List Value} {y : DataW H × List MemPlace} {n : Nat}
    (h : DataW.trod enc P w base sp held n e cs = some y) :
    ∃ (ys : List (DataW H × List MemPlace)) (n' : Nat), y.1 = .agg (ys.map (·.1)) ∧ ys.length = fs.size ∧ ∀ (j : Nat) (f : Field), fs[j]? = some f → ∃ v z, cs[j]? = some v ∧ ys[j]? = some z ∧ DataW.trod enc P w base sp held n' f.type [v] = some z := by
  obtain ⟨ys, n', _, hy, hl, hyl, hf⟩ := DataW.trod_struct he h
  refine ⟨ys, n', by rw [hy], hyl, fun j f hj => ?_⟩
  obtain ⟨h1, h2⟩ := hone_of hone j f hj
  have hjf := (Array.getElem?_eq_some_iff.1 hj).1
  have hjc : j < cs.length := by rw [hl, hC]; exact hjf
  have hjy : j < ys.length := by omega
  have h3 := hf j f hj
  rw [h1, h2, List.drop_eq_getElem_cons hjc, List.getElem?_eq_getElem hjy] at h3
  exact ⟨_, _, List.getElem?_eq_getElem hjc, List.getElem?_eq_getElem hjy, h3⟩
theorem weights_all {e : TypeId} {x : Nat} : ∀ {l : List (DataW H)} {d : DataW H}, d ∈ l → x ∈ d.weights P e → x ∈ DataW.weightsAll P e l := by
  intro l
  induction l with
  | nil => intro d h; cases h
  | cons a l ih =>
    intro d h hx
    simp only [DataW.weightsAll, List.mem_append]
    rcases List.mem_cons.1 h with rfl | h
    · exact .inl hx
    · exact .inr (ih h hx)
end
theorem cellsIA : Tryd.prog.cellsOf 50 = 2 := by kernel_rfl
theorem cellsIN : Tryd.prog.cellsOf 47 = 4 := by kernel_rfl
theorem bytesIA : Tryd.prog.bytesOf 50 = 32 := by kernel_rfl
theorem bytesIN : Tryd.prog.bytesOf 47 = 56 := by kernel_rfl
theorem reach_le {x y : Nat} (h : x ≤ reachBytes) (hy : y ≤ x) : y ≤ 140737488351232 := by simp only [reachBytes] at h; omega
section
variable {H : Type} {enc : TypeId × Value → H} {W : World} {sp : Nat → Bool} {held : Bool}
theorem openAtt {fuel : Nat} {v : Value} {x : DataW H × List MemPlace} (h : DataW.trod enc Tryd.prog W 0 sp held fuel 45 [v] = some x) :
    ∃ l, Att W W.heap.size v l ∧ ((∀ n ∈ x.1.weights Tryd.prog 45, n ≤ reachBytes) → smallA l) := by
  rcases open_slice Tryd.underlying45 h with ⟨hcs, hx⟩ | ⟨a, len, cap, m, n, D, Pl, hcs, hb, hl, hm, hmm, hx, hi⟩
  · obtain rfl : v = .slice none 0 0 := by simpa using hcs
    exact ⟨[], ⟨none, 0, rfl, Nat.le_refl _, fun k p hk => by simp at hk⟩, fun _ => ⟨Nat.zero_le _, fun p hp => by cases hp⟩⟩
  · obtain rfl : v = .slice (some a) len cap := by simpa using hcs
    have hE : ∀ i, i < len → ∃ p : ByteArray × ByteArray, (a.block < W.heap.size ∧ W.cell? (a.add (i * 2)) = some (.string p.1) ∧ W.cell? (a.add (i * 2 + 1)) = some (.string p.2)) ∧ D i = .agg [.lit (.string p.1.data.toList), .lit (.string p.2.data.toList)] := by
      intro i hil
      obtain ⟨cs', hcell, htr⟩ := hi i (by rw [hmm]; split <;> omega)
      rw [cellsIA] at hcell
      obtain ⟨ys, n', hy, hyl, hf⟩ := struct_fields Tryd.underlying50 (by kernel_rfl) cellsIA htr
      obtain ⟨_, hcl, hat⟩ := World.cells?_some hcell
      obtain ⟨v0, z0, h0, hz0, ht0⟩ := hf 0 _ rfl
      obtain ⟨v1, z1, h1, hz1, ht1⟩ := hf 1 _ rfl
      obtain ⟨s0, e0, hx0, _⟩ := DataW.trod_string Tryd.underlying9 ht0
      obtain ⟨s1, e1, hx1, _⟩ := DataW.trod_string Tryd.underlying9 ht1
      obtain rfl : v0 = .string s0 := by simpa using e0
      obtain rfl : v1 = .string s1 := by simpa using e1
      have c0 := (hat 0 (by decide)).trans h0
      have c1 := (hat 1 (by decide)).trans h1
      rw [add_add] at c0 c1
      match ys, hyl with
      | [y0, y1], _ =>
        simp only [List.getElem?_cons_zero, List.getElem?_cons_succ, Option.some.injEq] at hz0 hz1
        subst hz0 hz1 hx0 hx1
        exact ⟨(s0, s1), ⟨by have := World.block_lt_of_cell? W _ c0; rwa [add_lt] at this, c0, c1⟩, by simpa using hy⟩
    obtain ⟨l, hll, hq⟩ := list_of len hE
    refine ⟨l, ⟨some a, cap, by rw [hll], by omega, fun k p hk => ⟨a, rfl, (hq k p hk).1.1, (hq k p hk).1.2.1, (hq k p hk).1.2.2⟩⟩, fun hw => ?_⟩
    rw [hx] at hw
    have hw1 := hw ((((List.range len).map D).length + ((List.range (m - len)).map fun j => D (len + j)).length) * Tryd.prog.bytesOf 50) (by simp [DataW.weights, Tryd.underlying45])
    have hw2 : ∀ i, i < len → ∀ y ∈ (D i).weights Tryd.prog 50, y ≤ reachBytes := fun i hil y hy => hw y (by
      simp only [DataW.weights, Tryd.underlying45, List.mem_cons, List.mem_append]
      exact .inr (.inl (weights_all (List.mem_map_of_mem (List.mem_range.2 hil)) hy)))
    refine ⟨?_, fun p hp => ?_⟩
    · rw [bytesIA] at hw1
      simp only [List.length_map, List.length_range] at hw1
      exact reach_le hw1 (by omega)
    · obtain ⟨i, hil, he⟩ := List.mem_iff_getElem.1 hp
      have h2 := (hq i p (by rw [List.getElem?_eq_getElem hil, he])).2
      have h3 := hw2 i (by omega)
      rw [h2] at h3
      simp only [DataW.weights, Tryd.underlying50] at h3
      exact ⟨reach_le (h3 p.1.data.toList.length (by simp [DataW.weightsEach, DataW.weights])) (Nat.le_of_eq (size_of_data rfl)), reach_le (h3 p.2.data.toList.length (by simp [DataW.weightsEach, DataW.weights])) (Nat.le_of_eq (size_of_data rfl))⟩
theorem openTre {fuel : Nat} {v : Value} {x : DataW H × List MemPlace} (h : DataW.trod enc Tryd.prog W 0 sp held fuel 22 [v] = some x) :
    ∃ l, Tre .i64 W W.heap.size v l ∧ ((∀ n ∈ x.1.weights Tryd.prog 22, n ≤ reachBytes) → small l) := by
  rcases open_slice Tryd.underlying22 h with ⟨hcs, hx⟩ | ⟨a, len, cap, m, n, D, Pl, hcs, hb, hl, hm, hmm, hx, hi⟩
  · obtain rfl : v = .slice none 0 0 := by simpa using hcs
    exact ⟨[], ⟨none, 0, rfl, Nat.le_refl _, fun k p hk => by simp at hk⟩, fun _ => ⟨Nat.zero_le _, fun p hp => by cases hp⟩⟩
  · obtain rfl : v = .slice (some a) len cap := by simpa using hcs
    have hE : ∀ i, i < len → ∃ p : NodeA, (a.block < W.heap.size ∧ W.cell? (a.add (i * 4)) = some (.int .i64 p.parent) ∧ W.cell? (a.add (i * 4 + 1)) = some (.int .i64 p.kind) ∧ W.cell? (a.add (i * 4 + 2)) = some (.string p.data) ∧ W.cell? (a.add (i * 4 + 3)) = some p.av ∧ Att W W.heap.size p.av p.attrs)
        ∧ ∃ d0 d1 d3, D i = .agg [d0, d1, .lit (.string p.data.data.toList), d3] ∧ ((∀ n ∈ d3.weights Tryd.prog 45, n ≤ reachBytes) → smallA p.attrs) := by
      intro i hil
      obtain ⟨cs', hcell, htr⟩ := hi i (by rw [hmm]; split <;> omega)
      rw [cellsIN] at hcell
      obtain ⟨ys, n', hy, hyl, hf⟩ := struct_fields Tryd.underlying47 (by kernel_rfl) cellsIN htr
      obtain ⟨_, hcl, hat⟩ := World.cells?_some hcell
      obtain ⟨v0, z0, h0, hz0, ht0⟩ := hf 0 _ rfl
      obtain ⟨v1, z1, h1, hz1, ht1⟩ := hf 1 _ rfl
      obtain ⟨v2, z2, h2, hz2, ht2⟩ := hf 2 _ rfl
      obtain ⟨v3, z3, h3, hz3, ht3⟩ := hf 3 _ rfl
      obtain ⟨s0, e0, hx0, _⟩ := DataW.trod_int Tryd.underlying3 ht0
      obtain ⟨s1, e1, hx1, _⟩ := DataW.trod_int Tryd.underlying3 ht1
      obtain ⟨s2, e2, hx2, _⟩ := DataW.trod_string Tryd.underlying9 ht2
      obtain ⟨l3, hatt, hsm⟩ := openAtt ht3
      obtain rfl : v0 = .int .i64 s0 := by simpa using e0
      obtain rfl : v1 = .int .i64 s1 := by simpa using e1
      obtain rfl : v2 = .string s2 := by simpa using e2
      have c0 := (hat 0 (by decide)).trans h0
      have c1 := (hat 1 (by decide)).trans h1
      have c2 := (hat 2 (by decide)).trans h2
      have c3 := (hat 3 (by decide)).trans h3
      rw [add_add] at c0 c1 c2 c3
      match ys, hyl with
      | [y0, y1, y2, y3], _ =>
        simp only [List.getElem?_cons_zero, List.getElem?_cons_succ, Option.some.injEq] at hz0 hz1 hz2 hz3
        subst hz0 hz1 hz2 hz3 hx2
        exact ⟨⟨s0, s1, s2, v3, l3⟩, ⟨by have := World.block_lt_of_cell? W _ c0; rwa [add_lt] at this, c0, c1, c2, c3, hatt⟩, y0.1, y1.1, y3.1, by simpa using hy, hsm⟩
    obtain ⟨l, hll, hq⟩ := list_of len hE
    refine ⟨l, ⟨some a, cap, by rw [hll], by omega, fun k p hk => ⟨a, rfl, (hq k p hk).1⟩⟩, fun hw => ?_⟩
    rw [hx] at hw
    have hw1 := hw ((((List.range len).map D).length + ((List.range (m - len)).map fun j => D (len + j)).length) * Tryd.prog.bytesOf 47) (by simp [DataW.weights, Tryd.underlying22])
    have hw2 : ∀ i, i < len → ∀ y ∈ (D i).weights Tryd.prog 47, y ≤ reachBytes := fun i hil y hy => hw y (by
      simp only [DataW.weights, Tryd.underlying22, List.mem_cons, List.mem_append]
      exact .inr (.inl (weights_all (List.mem_map_of_mem (List.mem_range.2 hil)) hy)))
    refine ⟨?_, fun p hp => ?_⟩
    · rw [bytesIN] at hw1
      simp only [List.length_map, List.length_range] at hw1
      exact reach_le hw1 (by omega)
    · obtain ⟨i, hil, he⟩ := List.mem_iff_getElem.1 hp
      obtain ⟨d0, d1, d3, h2, hsm⟩ := (hq i p (by rw [List.getElem?_eq_getElem hil, he])).2
      have h3 := hw2 i (by omega)
      rw [h2] at h3
      simp only [DataW.weights, Tryd.underlying47] at h3
      exact ⟨reach_le (h3 p.data.data.toList.length (by simp [DataW.weightsEach, DataW.weights])) (Nat.le_of_eq (size_of_data rfl)), hsm fun n hn => h3 n (by simp [DataW.weightsEach, hn])⟩
end
end Go.Proofs.YtoindammaphefaaDoor
