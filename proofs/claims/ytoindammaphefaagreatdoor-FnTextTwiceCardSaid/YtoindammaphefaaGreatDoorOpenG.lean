/- Selectors that come in: how they read, opened to their cells, and how long their parts are at most. -/
import Derived.Test.YtoindammaphefaaGreatDoorGets
import Derived.Deep.Slices
import Derived.Deep.Fields
import Derived.ChangeSame
import Derived.SizedLaws
namespace Go.Proofs.YtoindammaphefaaGreatDoor
open Go.RowKit Go.ChangeShapes Go.WideShapes Go.Deep

theorem list_of' {α : Type} {Q : Nat → α → Prop} : ∀ n : Nat, (∀ i, i < n → ∃ p, Q i p) → ∃ l : List α, l.length = n ∧ ∀ i p, l[i]? = some p → Q i p := by
  intro n
  induction n with
  | zero => intro _; exact ⟨[], rfl, fun i p h => by simp at h⟩
  | succ n ih =>
    intro h
    obtain ⟨l, hl, hq⟩ := ih fun i hi => h i (by omega)
    obtain ⟨p, hp⟩ := h n (by omega)
    refine ⟨l ++ [p], by simp [hl], fun i q hi => ?_⟩
    by_cases hn : i < n
    · rw [List.getElem?_append_left (by omega)] at hi
      exact hq i q hi
    · have hi2 : i = n := by have := (List.getElem?_eq_some_iff.1 hi).1; simp [hl] at this; omega
      subst hi2
      rw [List.getElem?_append_right (by omega)] at hi
      simp [hl] at hi
      subst hi
      exact hp
section
variable {H : Type} {enc : TypeId × Value → H} {P : Program} {W : World} {sp : Nat → Bool} {held : Bool}
theorem weights_all' {e : TypeId} {x : Nat} : ∀ {l : List (DataW H)} {d : DataW H}, d ∈ l → x ∈ d.weights P e → x ∈ DataW.weightsAll P e l := by
  intro l
  induction l with
  | nil => intro d h; cases h
  | cons a l ih =>
    intro d h hx
    simp only [DataW.weightsAll, List.mem_append]
    rcases List.mem_cons.1 h with rfl | h
    · exact .inl hx
    · exact .inr (ih h hx)
theorem reach_le' {x y : Nat} (h : x ≤ reachBytes) (hy : y ≤ x) : y ≤ 140737488351232 := by simp only [reachBytes] at h; omega
/-- A slice of things that open: a row, and how long it is at most. -/
theorem open_row {α : Type} {t e : TypeId} {fuel N B : Nat} {Rel : (Nat → Option Value) → α → Prop} {Sm : α → Prop} {v : Value} {x : DataW H × List MemPlace} (ht : P.underlying t = some (.slice e)) (hN : P.cellsOf e = N) (hB : P.bytesOf e = B) (hN1 : 0 < N)
    (hE : ∀ n cs y, fuel = n + 1 → DataW.trod enc P W 0 sp held n e cs = some y → ∃ p, (∀ f : Nat → Option Value, (∀ j, j < N → f j = cs[j]?) → Rel f p) ∧ ((∀ n ∈ y.1.weights P e, n ≤ reachBytes) → Sm p))
    (h : DataW.trod enc P W 0 sp held fuel t [v] = some x) :
    ∃ l, Row N Rel W (fun b => b < W.heap.size) v l ∧ ((∀ n ∈ x.1.weights P t, n ≤ reachBytes) → l.length * B ≤ 140737488351232 ∧ ∀ p ∈ l, Sm p) := by
  rcases DataW.trod_slice ht h with ⟨hcs, hx⟩ | ⟨a, len, cap, elems, rest, n, hf, hcs, hx, hb, hl, hm, hlen, hel, hsp, hns⟩
  · obtain rfl : v = .slice none 0 0 := by simpa using hcs
    exact ⟨[], ⟨none, 0, rfl, Nat.le_refl _, fun k p hk => by simp at hk⟩, fun _ => ⟨by simp, fun p hp => by cases hp⟩⟩
  · obtain rfl : v = .slice (some a) len cap := by simpa using hcs
    have hQ : ∀ i, i < len → ∃ p : α, (a.block < W.heap.size ∧ Rel (fun j => W.cell? (a.add (i * N + j))) p) ∧ ∃ y ∈ elems, (∀ n ∈ y.1.weights P e, n ≤ reachBytes) → Sm p := by
      intro i hi
      have h1 := hel i hi
      rw [List.getElem?_eq_getElem (by omega)] at h1
      rw [hN] at h1
      obtain ⟨cs', hc, htr⟩ := Option.bind_eq_some_iff.1 h1
      obtain ⟨p, hp, hs⟩ := hE n cs' _ hf htr
      obtain ⟨_, hcl, hat⟩ := World.cells?_some hc
      refine ⟨p, ⟨?_, hp _ fun j hj => ?_⟩, _, List.getElem_mem _, hs⟩
      · have h0 := hat 0 hN1
        rw [List.getElem?_eq_getElem (by omega)] at h0
        have := World.block_lt_of_cell? W _ h0
        rwa [add_lt, add_lt] at this
      · have h0 := hat j hj
        rw [add_add] at h0
        exact h0
    obtain ⟨l, hll, hq⟩ := list_of' len hQ
    refine ⟨l, ⟨some a, cap, by rw [hll], by omega, fun k p hk => ⟨a, rfl, (hq k p hk).1⟩⟩, fun hw => ?_⟩
    rw [hx] at hw
    refine ⟨?_, fun p hp => ?_⟩
    · have hw1 := hw ((elems.length + rest.length) * P.bytesOf e) (by simp [DataW.weights, ht])
      rw [hB] at hw1
      refine reach_le' hw1 ?_
      rw [hll, hlen]
      exact Nat.mul_le_mul_right _ (by omega)
    · obtain ⟨i, hil, he⟩ := List.mem_iff_getElem.1 hp
      obtain ⟨y, hy, hs⟩ := (hq i p (by rw [List.getElem?_eq_getElem hil, he])).2
      refine hs fun n hn => hw n ?_
      simp only [DataW.weights, ht, List.mem_cons, List.mem_append]
      exact .inr (.inl (weights_all' (List.mem_map_of_mem hy) hn))
theorem slice_one {t e : TypeId} {fuel : Nat} {cs : List Value} {x : DataW H × List MemPlace} (ht : P.underlying t = some (.slice e)) (h : DataW.trod enc P W 0 sp held fuel t cs = some x) : ∃ v, cs = [v] := by
  rcases DataW.trod_slice ht h with ⟨hcs, _⟩ | ⟨a, len, cap, _, _, _, _, hcs, _⟩
  · exact ⟨_, hcs⟩
  · exact ⟨_, hcs⟩
theorem struct_open {e : TypeId} {fs : Array Field} {fuel : Nat} (he : P.underlying e = some (.struct fs)) (hone : oneCellFields P fs = true) (hC : P.cellsOf e = fs.size) {cs : List Value} {y : DataW H × List MemPlace}
    (h : DataW.trod enc P W 0 sp held fuel e cs = some y) :
    ∃ (ys : List (DataW H × List MemPlace)) (n' : Nat), fuel = n' + 1 ∧ y.1 = .agg (ys.map (·.1)) ∧ ys.length = fs.size ∧ ∀ (j : Nat) (f : Field), fs[j]? = some f → ∃ v z, cs[j]? = some v ∧ ys[j]? = some z ∧ DataW.trod enc P W 0 sp held n' f.type [v] = some z := by
  obtain ⟨ys, n', hfu, hy, hl, hyl, hf⟩ := DataW.trod_struct he h
  refine ⟨ys, n', hfu, by rw [hy], hyl, fun j f hj => ?_⟩
  obtain ⟨h1, h2⟩ := hone_of hone j f hj
  have hjf := (Array.getElem?_eq_some_iff.1 hj).1
  have hjc : j < cs.length := by rw [hl, hC]; exact hjf
  have hjy : j < ys.length := by omega
  have h3 := hf j f hj
  rw [h1, h2, List.drop_eq_getElem_cons hjc, List.getElem?_eq_getElem hjy] at h3
  exact ⟨_, _, List.getElem?_eq_getElem hjc, List.getElem?_eq_getElem hjy, h3⟩
end
theorem cellsLS : Tryz.prog.cellsOf 45 = 9 := by kernel_rfl
theorem cellsLC : Tryz.prog.cellsOf 40 = 2 := by kernel_rfl
theorem cellsLX : Tryz.prog.cellsOf 37 = 1 := by kernel_rfl
theorem bytesLS : Tryz.prog.bytesOf 45 = 96 := by kernel_rfl
theorem bytesLC : Tryz.prog.bytesOf 40 = 40 := by kernel_rfl
theorem bytesLX : Tryz.prog.bytesOf 37 = 24 := by kernel_rfl
section
variable {H : Type} {enc : TypeId × Value → H} {W : World} {sp : Nat → Bool} {held : Bool}
theorem open_group : ∀ (fuel D : Nat), fuel ≤ D → ∀ (v : Value) (x : DataW H × List MemPlace), DataW.trod enc Tryz.prog W 0 sp held fuel 22 [v] = some x →
    ∃ l, GrpIn W (fun b => b < W.heap.size) D v l ∧ ((∀ n ∈ x.1.weights Tryz.prog 22, n ≤ reachBytes) → smallG D l) := by
  intro fuel
  induction fuel using Nat.strongRecOn with
  | ind fuel ih =>
    intro D hD v x h
    cases D with
    | zero =>
      obtain rfl : fuel = 0 := by omega
      simp [DataW.trod] at h
    | succ D =>
      refine open_row (N := 1) (B := 24) (Rel := CellIn (GrpIn W (fun b => b < W.heap.size) D) W (fun b => b < W.heap.size)) (Sm := smallC (smallG D)) Tryz.underlying22 cellsLX bytesLX (by decide) ?_ h
      intro n1 cs1 y1 hf1 h1
      obtain ⟨v1, rfl⟩ := slice_one Tryz.underlying37 h1
      obtain ⟨c, hc, hcs⟩ := open_row (N := 2) (B := 40) (Rel := CmpIn (GrpIn W (fun b => b < W.heap.size) D) W (fun b => b < W.heap.size)) (Sm := fun p => p.1.size ≤ 140737488351232 ∧ smallP (smallG D) p.2) Tryz.underlying37 cellsLC bytesLC (by decide) (by
        intro n2 cs2 y2 hf2 h2
        obtain ⟨ys, n3, hf3, hy, hyl, hfs⟩ := struct_open Tryz.underlying40 (by kernel_rfl) cellsLC h2
        obtain ⟨v0, z0, g0, hz0, ht0⟩ := hfs 0 _ rfl
        obtain ⟨v1, z1, g1, hz1, ht1⟩ := hfs 1 _ rfl
        obtain ⟨s0, e0, hx0, _⟩ := DataW.trod_string Tryz.underlying9 ht0
        obtain rfl : v0 = .string s0 := by simpa using e0
        obtain ⟨l, hl, hls⟩ := open_row (N := 9) (B := 96) (Rel := SimIn (GrpIn W (fun b => b < W.heap.size) D)) (Sm := fun s => s.name.size ≤ 140737488351232 ∧ s.value.size ≤ 140737488351232 ∧ smallG D s.subs) Tryz.underlying38 cellsLS bytesLS (by decide) (by
          intro n4 cs4 y4 hf4 h4
          obtain ⟨yt, n5, hf5, hyt, hytl, hft⟩ := struct_open Tryz.underlying45 (by kernel_rfl) cellsLS h4
          obtain ⟨a0, w0, b0, hw0, hr0⟩ := hft 0 _ rfl
          obtain ⟨a1, w1, b1, hw1, hr1⟩ := hft 1 _ rfl
          obtain ⟨a2, w2, b2, hw2, hr2⟩ := hft 2 _ rfl
          obtain ⟨a3, w3, b3, hw3, hr3⟩ := hft 3 _ rfl
          obtain ⟨a4, w4, b4, hw4, hr4⟩ := hft 4 _ rfl
          obtain ⟨a5, w5, b5, hw5, hr5⟩ := hft 5 _ rfl
          obtain ⟨a6, w6, b6, hw6, hr6⟩ := hft 6 _ rfl
          obtain ⟨a7, w7, b7, hw7, hr7⟩ := hft 7 _ rfl
          obtain ⟨a8, w8, b8, hw8, hr8⟩ := hft 8 _ rfl
          obtain ⟨k0, q0, hq0, _⟩ := DataW.trod_int Tryz.underlying3 hr0
          obtain ⟨k1, q1, hq1, _⟩ := DataW.trod_string Tryz.underlying9 hr1
          obtain ⟨k2, q2, hq2, _⟩ := DataW.trod_string Tryz.underlying9 hr2
          obtain ⟨k3, q3, hq3⟩ := DataW.trod_bool Tryz.underlying4 hr3
          obtain ⟨k4, q4, hq4, _⟩ := DataW.trod_int Tryz.underlying3 hr4
          obtain ⟨k5, q5, hq5, _⟩ := DataW.trod_int Tryz.underlying3 hr5
          obtain ⟨k6, q6, hq6⟩ := DataW.trod_bool Tryz.underlying4 hr6
          obtain ⟨k7, q7, hq7⟩ := DataW.trod_bool Tryz.underlying4 hr7
          obtain rfl : a0 = .int .i64 k0 := by simpa using q0
          obtain rfl : a1 = .string k1 := by simpa using q1
          obtain rfl : a2 = .string k2 := by simpa using q2
          obtain rfl : a3 = .bool k3 := by simpa using q3
          obtain rfl : a4 = .int .i64 k4 := by simpa using q4
          obtain rfl : a5 = .int .i64 k5 := by simpa using q5
          obtain rfl : a6 = .bool k6 := by simpa using q6
          obtain rfl : a7 = .bool k7 := by simpa using q7
          obtain ⟨sub, hsub, hsm⟩ := ih n5 (by omega) D (by omega) _ _ hr8
          refine ⟨Sim.mk k0 k1 k2 k3 k4 k5 k6 k7 sub, fun f hf => ⟨(hf 0 (by decide)).trans b0, (hf 1 (by decide)).trans b1, (hf 2 (by decide)).trans b2, (hf 3 (by decide)).trans b3, (hf 4 (by decide)).trans b4, (hf 5 (by decide)).trans b5, (hf 6 (by decide)).trans b6, (hf 7 (by decide)).trans b7, a8, (hf 8 (by decide)).trans b8, hsub⟩, fun hw => ?_⟩
          match yt, hytl with
          | [y0, y1, y2, y3, y4, y5, y6, y7, y8], _ =>
            simp only [List.getElem?_cons_zero, List.getElem?_cons_succ, Option.some.injEq] at hw0 hw1 hw2 hw3 hw4 hw5 hw6 hw7 hw8
            subst hw0 hw1 hw2 hw3 hw4 hw5 hw6 hw7 hw8 hq1 hq2
            rw [hyt] at hw
            simp only [DataW.weights, Tryz.underlying45] at hw
            refine ⟨reach_le' (hw k1.data.toList.length (by simp [DataW.weightsEach, DataW.weights])) (Nat.le_of_eq (size_of_data rfl)), reach_le' (hw k2.data.toList.length (by simp [DataW.weightsEach, DataW.weights])) (Nat.le_of_eq (size_of_data rfl)), hsm fun n hn => hw n (by simp [DataW.weightsEach, hn])⟩) ht1
        refine ⟨(s0, l), fun f hf => ⟨(hf 0 (by decide)).trans g0, v1, (hf 1 (by decide)).trans g1, hl⟩, fun hw => ?_⟩
        match ys, hyl with
        | [y0, y1], _ =>
          simp only [List.getElem?_cons_zero, List.getElem?_cons_succ, Option.some.injEq] at hz0 hz1
          subst hz0 hz1 hx0
          rw [hy] at hw
          simp only [DataW.weights, Tryz.underlying40] at hw
          exact ⟨reach_le' (hw s0.data.toList.length (by simp [DataW.weightsEach, DataW.weights])) (Nat.le_of_eq (size_of_data rfl)), hls fun n hn => hw n (by simp [DataW.weightsEach, hn])⟩) h1
      exact ⟨c, fun f hf => ⟨v1, (hf 0 (by decide)).trans rfl, hc⟩, hcs⟩
end
end Go.Proofs.YtoindammaphefaaGreatDoor
