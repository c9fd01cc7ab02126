/- The walk of escape: it writes a backslash before each byte of a list, and the byte. Conditions: the text is of at most 2^40 bytes. -/
import Derived.Test.YtoindammaphefaaGreatDoorNames
import Derived.Lib.Hide
import Derived.Lib.Strings
import Derived.Lib.Slices
import Derived.Lib.Walk
import Derived.Lib.Bytealg
import Derived.Laws.IdiomStrings
import Derived.Maps.AppendAt
namespace Go.Proofs.YtoindammaphefaaGreatDoor
open Go.RowKit

set_option maxHeartbeats 1000000 in
set_option maxRecDepth 100000 in
theorem stringsliteIndexByte_any (s : ByteArray) (c : Int) (w : World) :
    Calls Tryz.prog 139 #[.string s, .int .u8 c] w fun e w' => e = .returned (.int .i64 (Lib.indexByte s.data.toList c.toNat.toUInt8)) ∧ w = w' := by
  go_enter Tryz.func139, Tryz.ntmps139
  go_wp2
  rw [run_callFunc_extern Tryz.func140 (by kernel_rfl) (by kernel_rfl) (by kernel_rfl) (e := Extern.BytealgIndexByte.indexByte) (by kernel_rfl), Lib.run_indexByteString]
  simp only [Result.andThen]
  rw [Oper.upon_value]
  go_wp2
  go_ret
  exact ⟨rfl, rfl⟩
theorem indexByte_any (s : ByteArray) (c : Int) (w : World) :
    Calls Tryz.prog 138 #[.string s, .int .u8 c] w fun e w' => e = .returned (.int .i64 (Lib.indexByte s.data.toList c.toNat.toUInt8)) ∧ w = w' := by
  go_enter Tryz.func138, Tryz.ntmps138
  go_wp2_with (go_at_call 139; refine (stringsliteIndexByte_any _ _ _).mono ?_; rintro e w' ⟨rfl, rfl⟩)
  go_ret
  exact ⟨rfl, rfl⟩

/-- The bytes that are written behind a backslash. -/
def specials : ByteArray := ⟨#[44, 33, 34, 35, 36, 37, 38, 39, 40, 41, 42, 43, 32, 45, 46, 47, 58, 59, 60, 61, 62, 63, 64, 91, 92, 93, 94, 96, 123, 124, 125, 126]⟩
def specB (c : UInt8) : Bool := specials.data.toList.contains c
def escItems (l : List UInt8) : List (Bool × UInt8) := l.map fun c => (specB c, c)

theorem index_spec (c : UInt8) : (specB c = true → 0 ≤ Lib.indexByte specials.data.toList c) ∧ (specB c = false → Lib.indexByte specials.data.toList c = -1) := by
  have h : ∀ n : Fin 256, (specB (UInt8.ofNat n.val) = true → 0 ≤ Lib.indexByte specials.data.toList (UInt8.ofNat n.val)) ∧ (specB (UInt8.ofNat n.val) = false → Lib.indexByte specials.data.toList (UInt8.ofNat n.val) = -1) := by decide +kernel
  have := h ⟨c.toNat, UInt8.toNat_lt c⟩
  simpa using this
theorem isSpecial (c : UInt8) (w : World) (h : specB c = true) :
    Calls Tryz.prog 138 #[.string specials, .int .u8 (c.toNat : Int)] w fun e w' => ∃ x : Int, 0 ≤ x ∧ e = .returned (.int .i64 x) ∧ w = w' :=
  (indexByte_any specials c.toNat w).mono fun e w' hh => ⟨_, (index_spec c).1 h, by simpa using hh.1, hh.2⟩
theorem isPlain (c : UInt8) (w : World) (h : specB c = false) :
    Calls Tryz.prog 138 #[.string specials, .int .u8 (c.toNat : Int)] w fun e w' => e = .returned (.int .i64 (-1)) ∧ w = w' :=
  (indexByte_any specials c.toNat w).mono fun e w' hh => ⟨by have := (index_spec c).2 h; simp at hh; rw [hh.1, this], hh.2⟩

def u8s (l : List UInt8) : List Value := l.map fun c => .int .u8 (c.toNat : Int)
theorem u8s_one (l : List UInt8) : ∀ u ∈ u8s l, u.oneCell' = true := by
  intro u hu
  simp only [u8s, List.mem_map] at hu
  obtain ⟨c, _, rfl⟩ := hu
  rfl
theorem wrt_len (l : List (Bool × UInt8)) : (wrt l).length ≤ 2 * l.length := by
  induction l with
  | nil => simp [wrt]
  | cons x l ih => obtain ⟨e, c⟩ := x; cases e <;> simp [wrt] <;> omega
theorem info_u8 : (Tryz.prog.info? 5).map (fun i => (i.zero, i.size, i.bytes)) = some (some (.int .u8 0), 1, 1) := by kernel_rfl

/-- string(b) of a row of bytes that the call made. -/
theorem conv_own {w : World} {base : Nat} {v : Value} {l : List UInt8} (hown : w.ownsRow base 5 1 v l.length (u8s l)) :
    (convert 82 9 v).run Tryz.prog w = .ok (.string ⟨l.toArray⟩) w := by
  rcases hown.2 with ⟨rfl, hx⟩ | ⟨g, cap, cur, rfl, _⟩
  · have hl : l = [] := by cases l with | nil => rfl | cons a l => simp at hx
    subst hl
    rw [run_convert_bytes_nil w 82 5 Tryz.underlying82 Tryz.underlying5 0 0 9 Tryz.underlying9]
    rfl
  · refine run_convert_bytes_back w 82 9 5 _ cap l Tryz.underlying82 Tryz.underlying5 Tryz.underlying9 (fun j hj => ?_)
    exact hown.cells (g := g) rfl j _ (by simp [u8s, hj])

def EscEnd (s : ByteArray) (w : World) (e : Ending) (w' : World) : Prop :=
  ∃ r : ByteArray, e = .returned (.string r) ∧ r.data.toList = wrt (escItems s.data.toList) ∧ Below w.heap.size w w'

set_option maxHeartbeats 1000000 in
set_option maxRecDepth 100000 in
theorem escape_any (s : ByteArray) (w : World) (hs : s.size ≤ 1099511627776) :
    Calls Tryz.prog 137 #[.string s] w fun e w' => EscEnd s w e w' := by
  obtain ⟨i0, hi, hz0, hz1, hz2⟩ := info_parts info_u8
  go_enter Tryz.func137, Tryz.ntmps137
  go_wp2_with (fail)
  go_loopw [3, 4] (fun v3 v4 wr' => ∃ k : Nat, v4 = .int .i64 k ∧ k ≤ s.size ∧ Below w.heap.size w wr' ∧
      wr'.ownsRow w.heap.size 5 1 v3 (wrt (escItems (s.data.toList.take k))).length (u8s (wrt (escItems (s.data.toList.take k)))))
    (fun _ v4 _ => s.size - (intOf v4).toNat)
  case atStart => exact ⟨0, rfl, Nat.zero_le _, Below.refl _ _, World.ownsRow_nil _ _ _ _⟩
  case round =>
    obtain ⟨k, rfl, hk, hb, hown⟩ := hrel
    by_cases hks : k < s.size
    · have hlt : (k : Int) < (s.size : Int) := by omega
      obtain ⟨c, hc⟩ : ∃ c, s[k] = c := ⟨_, rfl⟩
      have hkl : k < s.data.toList.length := by have := size_of_data (r := s) rfl; omega
      have htk : s.data.toList.take (k + 1) = s.data.toList.take k ++ [c] := by
        rw [List.take_succ_eq_append_getElem hkl, ← hc]; rfl
      obtain ⟨L, hL⟩ : ∃ L, L = wrt (escItems (s.data.toList.take k)) := ⟨_, rfl⟩
      have hLl : L.length ≤ 2 * k := by
        rw [hL]
        refine Nat.le_trans (wrt_len _) ?_
        simp [escItems]; omega
      rw [← hL] at hown
      have HT : Hid (wrt (escItems (s.data.toList.take (k + 1))) = L ++ (if specB c then [92, c] else [c])) := by
        show _ = _
        rw [htk, hL, escItems, List.map_append, wr_append, escItems]
        rcases h : specB c <;> simp [wrt, h]
      clear hL htk
      have hbw := hb.size
      rcases hsp : specB c
      · have HS := Lib.hid hsp
        clear hsp
        go_wp2_with (first
          | (go_at_call 138; refine (isPlain c _ HS.out).mono ?_; rintro e w' ⟨rfl, rfl⟩)
          | (at_builtin
             refine wpList_append_own _ rfl _ _ 82 rfl w.heap.size 5 i0 (.int .u8 0) 1 1 Tryz.underlying82 hi hz0 hz1 hz2 rfl (by decide) _ _ _ rfl (hown.alloc _) ⟨wr.heap.size, 0, none⟩ 1 1 [.int .u8 (c.toNat : Int)] rfl rfl (cell_one_new _ _ _) ?p1 ?p2 ?p3 ?p4 ?_
             case p1 => intro u hu; simp at hu; subst hu; rfl
             case p2 => unfold maxLen; omega
             case p3 => omega
             case p4 => simp; omega
             intro v1 w1 hown1 hg1 _
             have hb1 := (hb.alloc hb.size _).grown hg1 (by simp; omega) (fun g hg => (hown.lt g hg).1)))
        refine ⟨⟨k + 1, by go_num, by omega, hb1, ?_⟩, by simp [intOf]; omega⟩
        have e := HT.out
        rw [HS.out] at e
        rw [e]
        simpa [u8s] using hown1
      · have HS := Lib.hid hsp
        clear hsp
        go_wp2_with (first
          | (go_at_call 138; refine (isSpecial c _ HS.out).mono ?_; rintro e w' ⟨x, hx, rfl, rfl⟩)
          | (at_builtin
             refine wpList_append_own _ rfl _ _ 82 rfl w.heap.size 5 i0 (.int .u8 0) 1 1 Tryz.underlying82 hi hz0 hz1 hz2 rfl (by decide) _ _ _ rfl (hown.alloc _) ⟨wr.heap.size, 0, none⟩ 1 1 [.int .u8 (92)] rfl rfl (cell_one_new _ _ _) ?p1 ?p2 ?p3 ?p4 ?_
             case p1 => intro u hu; simp at hu; subst hu; rfl
             case p2 => unfold maxLen; omega
             case p3 => omega
             case p4 => simp; omega
             intro v1 w1 hown1 hg1 _
             have hb1 := (hb.alloc hb.size _).grown hg1 (by simp; omega) (fun g hg => (hown.lt g hg).1)
             have hbw1 := hb1.size)
          | (at_builtin
             refine wpList_append_own _ rfl _ _ 82 rfl w.heap.size 5 i0 (.int .u8 0) 1 1 Tryz.underlying82 hi hz0 hz1 hz2 rfl (by decide) _ _ _ rfl (hown1.alloc _) ⟨w1.heap.size, 0, none⟩ 1 1 [.int .u8 (c.toNat : Int)] rfl rfl (cell_one_new _ _ _) ?q1 ?q2 ?q3 ?q4 ?_
             case q1 => intro u hu; simp at hu; subst hu; rfl
             case q2 => unfold maxLen; omega
             case q3 => omega
             case q4 => simp; omega
             intro v2 w2 hown2 hg2 _
             have hb2 := (hb1.alloc hb1.size _).grown hg2 (by simp; omega) (fun g hg => (hown1.lt g hg).1)))
        refine ⟨⟨k + 1, by go_num, by omega, hb2, ?_⟩, by simp [intOf]; omega⟩
        have e := HT.out
        rw [HS.out] at e
        rw [e]
        simpa [u8s] using hown2
    · have hlt : ¬ (k : Int) < (s.size : Int) := by omega
      have hkl : k = s.data.toList.length := by have := size_of_data (r := s) rfl; omega
      rw [hkl, List.take_length] at hown
      have hcv := conv_own hown
      go_wp2_with (fail)
      go_ret
      exact ⟨_, rfl, rfl, hb⟩
end Go.Proofs.YtoindammaphefaaGreatDoor
