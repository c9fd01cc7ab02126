/- The walks of ZZEscaped, of the thin package's Escaped and of laws.FnEscaped: the law returns true for every text. No conditions beside the size that any text has. -/
import Derived.Test.YtoindammaphefaaDoorEsc
import Derived.Test.YtoindammaphefaaDoorZZIdent
namespace Go.Proofs.YtoindammaphefaaDoor
open Go.RowKit

theorem zzEscaped_any (s : ByteArray) (w : World) (hs : s.size ≤ 1099511627776) :
    Calls Tryd.prog 28 #[.string s] w fun e w' => EscEnd s w e w' := by
  have HC := Lib.hid (escape_any s w hs)
  go_enter Tryd.func28, Tryd.ntmps28
  go_wp2_with (go_at_call 36; refine HC.out.mono ?_; rintro e w2 ⟨r, rfl, hr, hb⟩)
  go_ret
  exact ⟨r, rfl, hr, hb⟩
theorem escaped_any (s : ByteArray) (w : World) (hs : s.size ≤ 1099511627776) :
    Calls Tryd.prog 18 #[.string s] w fun e w' => EscEnd s w e w' := by
  have HC := Lib.hid (zzEscaped_any s w hs)
  go_enter Tryd.func18, Tryd.ntmps18
  go_wp2_with (go_at_call 28; refine HC.out.mono ?_; rintro e w2 ⟨r, rfl, hr, hb⟩)
  go_ret
  exact ⟨r, rfl, hr, hb⟩

def seen (c : UInt8) : Prop := 32 ≤ (c.toNat : Int) ∧ (c.toNat : Int) ≤ 126
theorem esc_okItem (c : UInt8) (h : seen c) : okItem (specB c, c) := by
  have h1 : ∀ n : Fin 256, 32 ≤ n.val ∧ n.val ≤ 126 → (specB (UInt8.ofNat n.val) = true → hexB (n.val : Int) = false) ∧ (specB (UInt8.ofNat n.val) = false → nameCharB (n.val : Int) = true) := by decide +kernel
  have h2 := h1 ⟨c.toNat, UInt8.toNat_lt c⟩ (by obtain ⟨a, b⟩ := h; exact ⟨by simp; omega, by simp; omega⟩)
  simp at h2
  refine ⟨fun e => ⟨h2.1 e, ?_, ?_, ?_⟩, fun e => h2.2 e⟩ <;> (obtain ⟨a, b⟩ := h; simp; omega)
theorem dec_escItems (l : List UInt8) : dec (escItems l) = l := by simp [escItems, dec, Function.comp_def]
theorem letter_start {c : UInt8} (h : 97 ≤ (c.toNat : Int) ∧ (c.toNat : Int) ≤ 122 ∨ 65 ≤ (c.toNat : Int) ∧ (c.toNat : Int) ≤ 90) : nameStartB (c.toNat : Int) = true := by
  simp [nameStartB]; omega

set_option maxHeartbeats 1000000 in
set_option maxRecDepth 100000 in
/-- Behind the tests: a text of seen bytes that begins with a letter. -/
theorem lawEscaped_in (s : ByteArray) (c : UInt8) (l : List UInt8) (w : World) (hs : (s.size : Int) ≤ 40) (hd : s.data.toList = c :: l)
    (hc : 97 ≤ (c.toNat : Int) ∧ (c.toNat : Int) ≤ 122 ∨ (c.toNat : Int) < 97 ∧ 65 ≤ (c.toNat : Int) ∧ (c.toNat : Int) ≤ 90) :
    Calls Tryd.prog 6 #[.string s] w fun e w' => e = .returned (.bool true) ∧ Below w.heap.size w w' := by
  have hp : 0 < s.size := by rw [size_of_data hd]; simp
  have hp' : (0 : Int) < (s.size : Int) := by omega
  have h0 : s[0] = c := drop_get (k := 0) (by rw [List.drop_zero]; exact hd) hp
  have hne : s.toList = [] ↔ False := by rw [ByteArray.toList_eq, hd]; simp
  have hne' : s.toList.isEmpty = false := by rw [ByteArray.toList_eq, hd]; rfl
  have HE := Lib.hid (fun W => escaped_any s W (by omega))
  have HI := Lib.hid (fun (W : World) (r : ByteArray) (hr : r.data.toList = wrt (escItems s.data.toList)) (hall : ∀ d ∈ s.data.toList, seen d) =>
    identifier_any r (escItems s.data.toList) [] W
      (by rw [size_of_data hr]; have := wrt_len (escItems s.data.toList); have e : s.data.toList.length = s.size := (size_of_data rfl).symm; simp [escItems] at this ⊢; omega)
      (by rw [hr, List.append_nil])
      (fun x hx => by simp only [escItems, List.mem_map] at hx; obtain ⟨d, hd, rfl⟩ := hx; exact esc_okItem d (hall d hd))
      (fun d h => by cases h) (by rw [hd]; simp [escItems])
      (fun e d r he => by
        rw [hd] at he
        simp only [escItems, List.map_cons, List.cons.injEq, Prod.mk.injEq] at he
        obtain ⟨⟨_, rfl⟩, _⟩ := he
        exact .inr (letter_start (by omega))))
  have HD := Lib.hid hd
  clear hd
  rcases hc with ⟨x1, x2⟩ | ⟨x1, x2, x3⟩
  all_goals
    go_enter Tryd.func6, Tryd.ntmps6
    go_wp2_with (fail)
    clear h0 hne hne'
    go_loop [40] (fun v40 => ∃ k : Nat, v40 = .int .i64 k ∧ k ≤ s.size ∧ Hid (∀ j (h : j < s.size), j < k → seen s[j])) (fun v40 => s.size - (intOf v40).toNat)
    case atStart => exact ⟨0, rfl, Nat.zero_le _, fun j _ h => absurd h (by omega)⟩
    case round =>
      obtain ⟨k, rfl, hk, H⟩ := hrel
      by_cases hks : k < s.size
      · have hlt : (k : Int) < (s.size : Int) := by omega
        obtain ⟨d, hd⟩ : ∃ d, s[k] = d := ⟨_, rfl⟩
        have stepH : seen d → Hid (∀ j (h : j < s.size), j < k + 1 → seen s[j]) := fun hl j h hj => by
          by_cases e : j = k
          · subst e; rw [hd]; exact hl
          · exact H.out j h (by omega)
        have HS := Lib.hid stepH
        clear stepH
        by_cases c1 : (d.toNat : Int) < 32
        · go_wp2_with (fail)
          go_ret
          exact ⟨rfl, Below.refl _ _⟩
        by_cases c2 : 126 < (d.toNat : Int)
        · go_wp2_with (fail)
          go_ret
          exact ⟨rfl, Below.refl _ _⟩
        have HS2 := Lib.hid (HS.out ⟨by omega, by omega⟩)
        clear HS
        go_wp2_with (fail)
        go_round
        case rel => exact ⟨k + 1, by go_num, by omega, HS2.out⟩
        case measure => simp [intOf]; omega
      · have hlt : ¬ (k : Int) < (s.size : Int) := by omega
        have hall : ∀ d ∈ s.data.toList, seen d := fun d hd => by
          obtain ⟨j, hj, rfl⟩ := List.getElem_of_mem hd
          have e : s.data.toList.length = s.size := (size_of_data rfl).symm
          exact H.out j (by omega) (by omega)
        have HI2 := Lib.hid (fun W r hr => HI.out W r hr hall)
        clear hall HI
        go_wp2_with (first
          | (go_at_call 18; refine (HE.out _).mono ?_; rintro e w2 ⟨r, rfl, hr, hb⟩
             have HR := Lib.hid hr; clear hr)
          | (go_at_call 17; refine (HI2.out _ _ HR.out).mono ?_; rintro e w3 ⟨r2, rfl, hr2, hb2⟩
             have e2 : r2 = s := eq_of_data (by rw [hr2, dec_escItems])
             have e3 : r.size = (wrt (escItems s.data.toList)).length := size_of_data HR.out
             rw [e2, ← e3]))
        go_ret
        exact ⟨rfl, hb.trans (hb2.mono hb.size)⟩

set_option maxHeartbeats 1000000 in
set_option maxRecDepth 100000 in
theorem lawEscaped (s : ByteArray) (w : World) (hs : s.size ≤ 140737488351232) :
    Calls Tryd.prog 6 #[.string s] w fun e w' => e = .returned (.bool true) ∧ Below w.heap.size w w' := by
  by_cases z1 : 2147483647 < (s.size : Int)
  · go_enter Tryd.func6, Tryd.ntmps6
    go_wp2_with (fail)
    go_ret
    exact ⟨rfl, Below.refl _ _⟩
  by_cases z2 : 40 < (s.size : Int)
  · go_enter Tryd.func6, Tryd.ntmps6
    go_wp2_with (fail)
    go_ret
    exact ⟨rfl, Below.refl _ _⟩
  rcases hd : s.data.toList with _ | ⟨c, l⟩
  · have hne' : s.toList.isEmpty = true := by rw [ByteArray.toList_eq, hd]; rfl
    have hne : s.toList = [] ↔ True := by rw [ByteArray.toList_eq, hd]; simp
    clear hd
    go_enter Tryd.func6, Tryd.ntmps6
    go_wp2_with (fail)
    go_ret
    exact ⟨rfl, Below.refl _ _⟩
  by_cases hc : 97 ≤ (c.toNat : Int) ∧ (c.toNat : Int) ≤ 122 ∨ (c.toNat : Int) < 97 ∧ 65 ≤ (c.toNat : Int) ∧ (c.toNat : Int) ≤ 90
  · exact lawEscaped_in s c l w (by omega) hd hc
  have hp : 0 < s.size := by rw [size_of_data hd]; simp
  have hp' : (0 : Int) < (s.size : Int) := by omega
  have h0 : s[0] = c := drop_get (k := 0) (by rw [List.drop_zero]; exact hd) hp
  have hne : s.toList = [] ↔ False := by rw [ByteArray.toList_eq, hd]; simp
  have hne' : s.toList.isEmpty = false := by rw [ByteArray.toList_eq, hd]; rfl
  have hcs : ((c.toNat : Int) < 65) ∨ (90 < (c.toNat : Int) ∧ (c.toNat : Int) < 97) ∨ 122 < (c.toNat : Int) := by omega
  clear hd hc
  rcases hcs with x1 | ⟨x1, x2⟩ | x1
  all_goals
    go_enter Tryd.func6, Tryd.ntmps6
    go_wp2_with (fail)
    go_ret
    exact ⟨rfl, Below.refl _ _⟩
end Go.Proofs.YtoindammaphefaaDoor
