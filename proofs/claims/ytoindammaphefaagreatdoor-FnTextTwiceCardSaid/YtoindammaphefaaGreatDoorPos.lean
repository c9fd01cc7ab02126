/- A world whose parser has moved, and in which new blocks may lie; the walks of strconv.Atoi at a few digits, of parseInteger and of skipWhitespace. -/
import Derived.Test.YtoindammaphefaaGreatDoorNames
import Derived.Test.YtoindammaphefaaGreatDoorAtoi
import Derived.Lib.Hide
import Derived.Lib.AtoiErrMem
namespace Go.Proofs.YtoindammaphefaaGreatDoor
open Go.RowKit

/-- Of what was there, only the position of the parser at block g has turned: it is j. -/
structure Pos (w w' : World) (g j : Nat) : Prop where
  os : w'.os = w.os
  tape : w'.tape = w.tape
  output : w'.output = w.output
  size : w.heap.size ≤ w'.heap.size
  block : ∀ k, k < w.heap.size → k ≠ g → w'.heap[k]? = w.heap[k]?
  own : w'.heap[g]? = (w.setCell ⟨g, 1, none⟩ (.int .i64 j)).heap[g]?

theorem setCell_own {w w' : World} {g : Nat} {v : Value} (h : w'.heap[g]? = w.heap[g]?) : (w'.setCell ⟨g, 1, none⟩ v).heap[g]? = (w.setCell ⟨g, 1, none⟩ v).heap[g]? := by
  simp only [World.setCell, Array.getElem?_modify, h]
theorem setCell_size (w : World) (a : Addr) (v : Value) : (w.setCell a v).heap.size = w.heap.size := by simp [World.setCell]
theorem Moved.toPos {w w' : World} {g j : Nat} (h : Moved w w' g j) : Pos w w' g j := by
  obtain ⟨n, rfl⟩ := h
  exact ⟨rfl, rfl, rfl, by rw [show ((w.setCell ⟨g, 1, none⟩ (.int .i64 j)).drewN n).heap = (w.setCell ⟨g, 1, none⟩ (.int .i64 j)).heap from rfl, setCell_size]; omega, fun k _ hne => Below.heap_setCell w ⟨g, 1, none⟩ _ k hne, rfl⟩
theorem Pos.trans {w w1 w2 : World} {g i j : Nat} (h : Pos w w1 g i) (h' : Pos w1 w2 g j) : Pos w w2 g j :=
  ⟨h'.os.trans h.os, h'.tape.trans h.tape, h'.output.trans h.output, Nat.le_trans h.size h'.size, fun k hk hne => (h'.block k (Nat.lt_of_lt_of_le hk h.size) hne).trans (h.block k hk hne), by
    rw [h'.own, setCell_own h.own, setCell_twice]⟩
theorem Pos.start {w : World} {g i : Nat} (h : w.cell? ⟨g, 1, none⟩ = some (.int .i64 i)) : Pos w w g i := (Moved.start h).toPos
theorem cell_lt {w : World} {a : Addr} {v : Value} (h : w.cell? a = some v) : a.block < w.heap.size := by
  rcases Nat.lt_or_ge a.block w.heap.size with hl | hl
  · exact hl
  · unfold World.cell? at h
    rw [Array.getElem?_eq_none hl] at h
    cases h
theorem Pos.below {w w1 w2 : World} {g i : Nat} (h : Pos w w1 g i) (hg : g < w.heap.size) (hb : Below w1.heap.size w1 w2) : Pos w w2 g i :=
  ⟨hb.os.trans h.os, hb.tape.trans h.tape, hb.output.trans h.output, Nat.le_trans h.size hb.size, fun k hk hne => (hb.block k (Nat.lt_of_lt_of_le hk h.size)).trans (h.block k hk hne),
    (hb.block g (Nat.lt_of_lt_of_le hg h.size)).trans h.own⟩
theorem Pos.drewN {w w1 : World} {g i : Nat} (h : Pos w w1 g i) (n : Nat) : Pos w (w1.drewN n) g i := ⟨h.os, h.tape, h.output, h.size, h.block, h.own⟩
theorem Pos.of_drewN {w w1 : World} {g i n : Nat} (h : Pos (w.drewN n) w1 g i) : Pos w w1 g i := ⟨h.os, h.tape, h.output, h.size, h.block, h.own⟩
theorem Pos.moved {w w1 w2 : World} {g i j : Nat} (h : Pos w w1 g i) (h' : Moved w1 w2 g j) : Pos w w2 g j := h.trans h'.toPos
theorem Pos.set {w w1 : World} {g i : Nat} (h : Pos w w1 g i) (j : Nat) : Pos w (w1.setCell ⟨g, 1, none⟩ (.int .i64 j)) g j := h.moved ⟨0, rfl⟩
theorem cell_of_heap {w w' : World} {g o : Nat} (h : w'.heap[g]? = w.heap[g]?) : w'.cell? ⟨g, o, none⟩ = w.cell? ⟨g, o, none⟩ := World.cell?_of_block (w := w) (a := ⟨g, o, none⟩) h
theorem Pos.cell {w w1 : World} {g j : Nat} (h : Pos w w1 g j) {o : Nat} (ho : o ≠ 1) : w1.cell? ⟨g, o, none⟩ = w.cell? ⟨g, o, none⟩ := by
  rw [cell_of_heap h.own]
  exact World.cell?_setCell_other w ⟨g, 1, none⟩ ⟨g, o, none⟩ _ (by intro e; injection e with _ e; exact ho e.symm)
theorem Pos.pos {w w1 : World} {g j : Nat} (h : Pos w w1 g j) {v : Value} (c1 : w.cell? ⟨g, 1, none⟩ = some v) : w1.cell? ⟨g, 1, none⟩ = some (.int .i64 j) := by
  rw [cell_of_heap h.own]
  exact World.cell?_setCell_same w ⟨g, 1, none⟩ _ c1
theorem Pos.frozen {w w1 : World} {g j : Nat} (h : Pos w w1 g j) (o : Nat) : w1.frozen? ⟨g, o, none⟩ = w.frozen? ⟨g, o, none⟩ := by
  rw [World.frozen?_of_block (w := w.setCell ⟨g, 1, none⟩ (.int .i64 j)) (a := ⟨g, o, none⟩) h.own]
  exact World.frozen?_setCell w ⟨g, 1, none⟩ _ _
theorem Pos.facts {w w1 : World} {g j : Nat} {v u : Value} (h : Pos w w1 g j) (c0 : w.cell? ⟨g, 0, none⟩ = some u) (c1 : w.cell? ⟨g, 1, none⟩ = some v) (f1 : w.frozen? ⟨g, 1, none⟩ = false) :
    w1.cell? ⟨g, 0, none⟩ = some u ∧ w1.cell? ⟨g, 1, none⟩ = some (.int .i64 j) ∧ w1.frozen? ⟨g, 1, none⟩ = false :=
  ⟨(h.cell (by decide)).trans c0, h.pos c1, (h.frozen _).trans f1⟩
/-- A parser of the call's own: nothing older has turned. -/
theorem Pos.below0 {w0 w w1 : World} {g j : Nat} (h : Pos w w1 g j) (h0 : Below w0.heap.size w0 w) (hg : w0.heap.size ≤ g) : Below w0.heap.size w0 w1 :=
  ⟨h.os.trans h0.os, h.tape.trans h0.tape, h.output.trans h0.output, Nat.le_trans h0.size h.size, fun k hk => (h.block k (Nat.lt_of_lt_of_le hk h0.size) (by omega)).trans (h0.block k hk)⟩

/-- strconv.Atoi at a numeral of at most 18 bytes. -/
theorem atoi_any (s : ByteArray) (n : Int) (w : World) (hl : s.size ≤ 18) (h : Lib.atoi s.data.toList = some n) :
    Calls Tryz.prog 72 #[.string s] w fun e w' => e = .returned (.tuple #[.int .i64 n, .nilIface]) ∧ Below w.heap.size w w' :=
  (Tryz.strconv_Atoi s n hl h w).mono fun e w' ⟨he, t, ht⟩ => ⟨he, by rw [ht]; exact Lib.bytesWorld_below w _ t⟩

def digB (c : UInt8) : Bool := decide (48 ≤ (c.toNat : Int) ∧ (c.toNat : Int) ≤ 57)
/-- Digits end here. -/
def noDig (rest : List UInt8) : Prop := ∀ c, rest.head? = some c → digB c = false

set_option maxHeartbeats 1000000 in
set_option maxRecDepth 100000 in
theorem parseInteger_any (g : Nat) (s : ByteArray) (i : Nat) (D rest : List UInt8) (n : Int) (w : World) (hs : s.size ≤ 140737488351232)
    (c0 : w.cell? ⟨g, 0, none⟩ = some (.string s)) (c1 : w.cell? ⟨g, 1, none⟩ = some (.int .i64 i)) (f1 : w.frozen? ⟨g, 1, none⟩ = false)
    (hd : s.data.toList.drop i = D ++ rest) (hD : ∀ c ∈ D, digB c = true) (hne : D ≠ []) (hl : D.length ≤ 18) (hn : Lib.atoi D = some n) (hr : noDig rest) :
    Calls Tryz.prog 62 #[.pointer (some ⟨g, 0, none⟩)] w fun e w' => e = .returned (.tuple #[.int .i64 n, .nilIface]) ∧ Pos w w' g (i + D.length) := by
  have hpos : 0 < D.length := by cases D with | nil => exact absurd rfl hne | cons c l => simp
  obtain ⟨E, hE⟩ : ∃ E, E = i + D.length := ⟨_, rfl⟩
  have hEs : E ≤ s.size := by rw [hE]; exact drop_le hd hpos
  have hiE : i < E := by omega
  have hdE : s.data.toList.drop E = rest := by rw [hE]; exact drop_add hd
  have hbyte : ∀ j (h : j < s.size), i ≤ j → j < E → digB s[j] = true := fun j h h1 h2 => by
    obtain ⟨m, rfl⟩ : ∃ m, j = i + m := ⟨j - i, by omega⟩
    have hm : m < D.length := by omega
    have hdm : s.data.toList.drop (i + m) = D[m] :: (D.drop (m + 1) ++ rest) := by
      rw [← List.drop_drop, hd, List.drop_append_of_le_length (by omega), List.drop_eq_getElem_cons hm]
      rfl
    rw [drop_get hdm h]
    exact hD _ (List.getElem_mem hm)
  have hex : (s.extract i E).data.toList = D := by rw [hE]; exact extract_of_drop hd
  have HX := Lib.hid hex
  have HB := Lib.hid hbyte
  have HA := Lib.hid (fun W => atoi_any (s.extract i E) n W (by rw [size_of_data hex]; exact hl) (by rw [hex]; exact hn))
  have m0 := Pos.start c1
  have hgs := cell_lt c1
  have heq : ((E : Int) == (i : Int)) = false := by simp; omega
  have hdE2 := Lib.hid hdE
  rw [← hE]
  clear hE hdE hbyte hex hd hD hne hl hn hpos
  go_enter Tryz.func62, Tryz.ntmps62
  go_wp2_with (fail)
  go_loop [4] (fun v4 => ∃ j : Nat, v4 = .int .i64 j ∧ i ≤ j ∧ j ≤ E) (fun v4 => E - (intOf v4).toNat)
  case atStart => exact ⟨i, rfl, Nat.le_refl _, by omega⟩
  case round =>
    obtain ⟨j, rfl, hj1, hj2⟩ := hrel
    by_cases hjE : j < E
    · have hjs : j < s.size := by omega
      have hjl : (j : Int) < (s.size : Int) := by omega
      have hb := HB.out j hjs hj1 hjE
      have hb1 : 48 ≤ ((s[j]).toNat : Int) := (of_decide_eq_true hb).1
      have hb2 : ((s[j]).toNat : Int) ≤ 57 := (of_decide_eq_true hb).2
      clear hb heq
      go_wp2_with (fail)
      go_round
      case rel => exact ⟨j + 1, by go_num, by omega, by omega⟩
      case measure => simp [intOf]; omega
    · obtain rfl : j = E := by omega
      rcases rest with _ | ⟨c, rest⟩
      · have hjl : ¬ (j : Int) < (s.size : Int) := by have := drop_nil hdE2.out; omega
        go_wp2_with (go_at_call 72; refine (HA.out _).mono ?_; rintro e w2 ⟨rfl, hb⟩)
        go_ret2
        exact ⟨rfl, (m0.set j).below hgs hb⟩
      · have hjs : j < s.size := drop_lt hdE2.out
        have hjl : (j : Int) < (s.size : Int) := by omega
        have hc : s[j] = c := drop_get hdE2.out hjs
        have hcc := of_decide_eq_false (hr c rfl)
        have hcs : (c.toNat : Int) < 48 ∨ 57 < (c.toNat : Int) := by omega
        clear hcc
        rcases hcs with x | x
        · go_wp2_with (go_at_call 72; refine (HA.out _).mono ?_; rintro e w2 ⟨rfl, hb⟩)
          go_ret2
          exact ⟨rfl, (m0.set j).below hgs hb⟩
        · go_wp2_with (go_at_call 72; refine (HA.out _).mono ?_; rintro e w2 ⟨rfl, hb⟩)
          go_ret2
          exact ⟨rfl, (m0.set j).below hgs hb⟩

/-- No white space and no remark begins here. -/
def noWs (rest : List UInt8) : Prop := ∀ c, rest.head? = some c → ¬ c = 32 ∧ ¬ c = 9 ∧ ¬ c = 13 ∧ ¬ c = 10 ∧ ¬ c = 12 ∧ ¬ c = 47
theorem u8_ne' {a b : UInt8} (h : ¬ a = b) : ((a.toNat : Int) == (b.toNat : Int)) = false := by
  have : ¬ a.toNat = b.toNat := fun e => h (UInt8.toNat_inj.1 e)
  simp
  omega

set_option maxHeartbeats 1000000 in
set_option maxRecDepth 100000 in
/-- skipWhitespace over n blanks. -/
theorem skip_any (g : Nat) (s : ByteArray) (i n : Nat) (rest : List UInt8) (w : World) (hs : s.size ≤ 140737488351232) (hi : i ≤ s.size)
    (c0 : w.cell? ⟨g, 0, none⟩ = some (.string s)) (c1 : w.cell? ⟨g, 1, none⟩ = some (.int .i64 i)) (f1 : w.frozen? ⟨g, 1, none⟩ = false)
    (hd : s.data.toList.drop i = List.replicate n 32 ++ rest) (hr : noWs rest) :
    Calls Tryz.prog 33 #[.pointer (some ⟨g, 0, none⟩)] w fun e w' => e = .returned (.bool (decide (0 < n))) ∧ Moved w w' g (i + n) := by
  have hle : i + n ≤ s.size := by
    rcases Nat.eq_zero_or_pos n with h | h
    · omega
    · have := drop_le (s := s) (k := i) (a := List.replicate n 32) (l := rest) hd (by simpa using h)
      simpa using this
  have hdE : s.data.toList.drop (i + n) = rest := by
    have := drop_add (s := s) (k := i) (a := List.replicate n 32) (l := rest) hd
    simpa using this
  have hbyte : ∀ j (h : j < s.size), i ≤ j → j < i + n → s[j] = 32 := fun j h h1 h2 => by
    obtain ⟨m, rfl⟩ : ∃ m, j = i + m := ⟨j - i, by omega⟩
    have hdm : s.data.toList.drop (i + m) = 32 :: (List.replicate (n - m - 1) 32 ++ rest) := by
      rw [← List.drop_drop, hd, List.drop_append_of_le_length (by simp; omega), List.drop_replicate, show n - m = (n - m - 1) + 1 by omega, List.replicate_succ]
      rfl
    exact drop_get hdm h
  obtain ⟨E, hE⟩ : ∃ E, E = i + n := ⟨_, rfl⟩
  have hn : decide (0 < n) = decide (i < E) := by rw [decide_eq_decide]; omega
  rw [← hE] at hdE hbyte hle ⊢
  rw [hn]
  have hiE : i ≤ E := by omega
  have HB := Lib.hid hbyte
  have HD := Lib.hid hdE
  have m0 := Moved.start c1
  clear hE hd hn hbyte hdE hi
  go_enter Tryz.func33, Tryz.ntmps33
  go_wp2_with (fail)
  go_loop [3] (fun v3 => ∃ j : Nat, v3 = .int .i64 j ∧ i ≤ j ∧ j ≤ E) (fun v3 => E - (intOf v3).toNat)
  case atStart => exact ⟨i, rfl, Nat.le_refl _, by omega⟩
  case round =>
    obtain ⟨j, rfl, hj1, hj2⟩ := hrel
    by_cases hjE : j < E
    · have hjs : j < s.size := by omega
      have hjl : (j : Int) < (s.size : Int) := by omega
      have hc : s[j] = 32 := HB.out j hjs hj1 hjE
      go_wp2_with (fail)
      go_round
      case rel => exact ⟨j + 1, by go_num, by omega, by omega⟩
      case measure => simp [intOf]; omega
    · obtain rfl : j = E := by omega
      rcases rest with _ | ⟨c, rest⟩
      · have hjl : ¬ (j : Int) < (s.size : Int) := by have := drop_nil HD.out; omega
        by_cases hij : i < j
        · go_wp2_with (fail)
          go_ret
          exact ⟨by simp, m0.set j⟩
        · obtain rfl : i = j := by omega
          go_wp2_with (fail)
          go_ret
          exact ⟨by simp, m0⟩
      · have hjs : j < s.size := drop_lt HD.out
        have hjl : (j : Int) < (s.size : Int) := by omega
        have hc : s[j] = c := drop_get HD.out hjs
        obtain ⟨k1, k2, k3, k4, k5, k6⟩ := hr c rfl
        have b1 : ((c.toNat : Int) == 32) = false := u8_ne' (b := 32) k1
        have b2 : ((c.toNat : Int) == 9) = false := u8_ne' (b := 9) k2
        have b3 : ((c.toNat : Int) == 13) = false := u8_ne' (b := 13) k3
        have b4 : ((c.toNat : Int) == 10) = false := u8_ne' (b := 10) k4
        have b5 : ((c.toNat : Int) == 12) = false := u8_ne' (b := 12) k5
        have b6 : ((c.toNat : Int) == 47) = false := u8_ne' (b := 47) k6
        clear k1 k2 k3 k4 k5 k6
        by_cases hij : i < j
        · go_wp2_with (fail)
          go_ret
          exact ⟨by simp, m0.set j⟩
        · obtain rfl : i = j := by omega
          go_wp2_with (fail)
          go_ret
          exact ⟨by simp, m0⟩
end Go.Proofs.YtoindammaphefaaGreatDoor
