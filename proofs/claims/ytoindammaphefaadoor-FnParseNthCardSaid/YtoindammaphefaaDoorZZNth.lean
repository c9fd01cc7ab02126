/- The walks of ZZParseNth and of the thin package's ParseNth, over what parseNth does at that text. No conditions beside that. -/
import Derived.Test.YtoindammaphefaaDoorNth
import Derived.Test.YtoindammaphefaaDoorZZIdent
namespace Go.Proofs.YtoindammaphefaaDoor
open Go.RowKit

theorem results_tmp4 {fn : Func} {t u v x : Tmp} (h : fn.results = #[.tmp t, .tmp u, .tmp v, .tmp x]) (tmps : Array Value) (P : Program) (w : World) :
    (results fn tmps).run P w = .ok (.tuple #[tmps.getD t undef, tmps.getD u undef, tmps.getD v undef, tmps.getD x undef]) w := by
  simp [results, h]

/-- parseNth reads a times n and b at the front of s, in n bytes. -/
def NthReads (s : ByteArray) (a b : Int) (n : Nat) : Prop :=
  ∀ (g : Nat) (w : World), w.cell? ⟨g, 0, none⟩ = some (.string s) → w.cell? ⟨g, 1, none⟩ = some (.int .i64 (0 : Nat)) → w.frozen? ⟨g, 1, none⟩ = false →
    Calls Tryd.prog 37 #[.pointer (some ⟨g, 0, none⟩)] w fun e w' => NthEnd w g n a b e w'
set_option maxHeartbeats 400000 in
theorem zzNth_any (s : ByteArray) (a b : Int) (n : Nat) (w : World) (H : NthReads s a b n) :
    Calls Tryd.prog 29 #[.string s] w fun e w' => e = .returned (.tuple #[.int .i64 a, .int .i64 b, .int .i64 n, .nilIface]) ∧ Below w.heap.size w w' := by
  have HC := Lib.hid H
  clear H
  go_enter Tryd.func29, Tryd.ntmps29
  go_wp2_with (go_at_call 37; refine (HC.out w.heap.size _ ?_ ?_ ?_).mono ?_; (go_simp); (go_simp); (go_simp); rintro e w2 ⟨rfl, hm⟩
               have hb := hm.below0 ((Below.refl w.heap.size w).alloc (Nat.le_refl _) _) (Nat.le_refl _)
               have hp := hm.pos (v := .int .i64 0) (by go_simp))
  go_quiet (fail)
  go_wp2_with (fail)
  refine bodyPost_ret (results_tmp4 rfl _ _ _) rfl ?_
  exact ⟨rfl, below_drewN' hb _⟩
set_option maxHeartbeats 400000 in
theorem nth_any (s : ByteArray) (a b : Int) (n : Nat) (w : World) (H : NthReads s a b n) :
    Calls Tryd.prog 19 #[.string s] w fun e w' => e = .returned (.tuple #[.int .i64 a, .int .i64 b, .int .i64 n, .bool true]) ∧ Below w.heap.size w w' := by
  have HC := Lib.hid (zzNth_any s a b n w H)
  clear H
  go_enter Tryd.func19, Tryd.ntmps19
  go_wp2_with (go_at_call 29; refine HC.out.mono ?_; rintro e w2 ⟨rfl, hb⟩)
  go_quiet (fail)
  go_wp2_with (fail)
  refine bodyPost_ret (results_tmp4 rfl _ _ _) rfl ?_
  exact ⟨rfl, below_drewN' hb _⟩
end Go.Proofs.YtoindammaphefaaDoor
