/- The walk of parseNth, label by label: it reads a times n and b as it is written; odd, even, a number alone, n. No conditions beside those on the text. -/
import Derived.Test.YtoindammaphefaaGreatDoorPos
import Derived.Test.YtoindammaphefaaGreatDoorDec
import Derived.Test.YtoindammaphefaaGreatDoorGoto
namespace Go.Proofs.YtoindammaphefaaGreatDoor
open Go.RowKit

def firstScope : Code → Option Code
  | .scope c => some c
  | .seq a b => match firstScope a with
    | some c => some c
    | none => firstScope b
  | _ => none
noncomputable def nthBody : Code := (Tryz.f54.body.bind firstScope).getD .skip
noncomputable def nthRest (l : Nat) : Code := (findLabel nthBody l).getD .skip
def NthEnd (W : World) (g E : Nat) (a b : Int) (e : Ending) (w' : World) : Prop := e = .returned (.tuple #[.int .i64 a, .int .i64 b, .nilIface]) ∧ Pos W w' g E
abbrev NthQ (W : World) (g E : Nat) (a b : Int) (n : Nat) : Exit → Act → World → Prop := jumpsQ Tryz.prog nthBody (bodyPost Tryz.prog Tryz.f54 fun e w' => NthEnd W g E a b e w') n


set_option maxHeartbeats 2000000 in
set_option maxRecDepth 1000000 in
/-- readN, at + and a numeral. -/
theorem readN_plus (g : Nat) (s : ByteArray) (i : Nat) (D rest : List UInt8) (a n : Int) (N : Nat) (W w : World) (hs : s.size ≤ 140737488351232)
    (c0 : W.cell? ⟨g, 0, none⟩ = some (.string s)) {v0 : Value} (c1 : W.cell? ⟨g, 1, none⟩ = some v0) (f1 : W.frozen? ⟨g, 1, none⟩ = false) (hp : Pos W w g i)
    (hd : s.data.toList.drop i = 43 :: (D ++ rest)) (hD : ∀ c ∈ D, digB c = true) (hne : D ≠ []) (hl : D.length ≤ 18) (hn : Lib.atoi D = some n) (hr : noDig rest) (_hn0 : 0 ≤ n) (_hn1 : n ≤ 999999)
    (u5 u6 u7 u8 u9 u10 u11 u12 u13 u14 u15 u16 u17 u18 u19 u20 u21 u22 u23 u24 u25 u26 u27 u28 u29 u30 u31 u32 u33 u34 u35 u36 u37 u38 u39 u40 u41 u42 u43 u44 u45 u46 u47 u48 u49 u50 u51 u52 u53 u54 u55 u56 u57 u58 u59 u60 u61 u62 u63 u64 u65 u66 u67 u68 u69 u70 u71 u72 u73 u74 u75 u76 u77 u78 u79 u80 u81 u82 u83 u84 u85 u86 u87 u88 u89 u90 u91 u92 u93 u94 u95 u96 u97 u98 u99 u100 u101 u102 u103 u104 u105 u106 u107 u108 u109 u110 u111 u112 u113 u114 u115 u116 u117 u118 u119 u120 u121 u122 u123 u124 u125 u126 u127 u128 u129 u130 u131 u132 u133 u134 u135 u136 u137 u138 u139 u140 u141 u142 u143 u144 u145 u146 u147 u148 u149 u150 u151 u152 u153 u154 u155 u156 u157 u158 u159 u160 u161 u162 u163 u164 u165 u166 u167 u168 u169 u170 u171 u172 u173 u174 u175 u176 u177 u178 u179 u180 u181 u182 u183 u184 u185 u186 u187 u188 u189 u190 u191 u192 u193 u194 u195 u196 u197 u198 u199 u200 u201 u202 u203 u204 u205 u206 u207 u208 u209 u210 u211 u212 u213 u214 u215 u216 u217 u218 u219 u220 u221 u222 u223 u224 u225 u226 u227 u228 u229 u230 u231 u232 u233 u234 u235 u236 u237 u238 u239 u240 u241 u242 u243 u244 u245 u246 u247 u248 u249 u250 u251 u252 u253 u254 u255 u256 u257 u258 u259 u260 u261 u262 u263 u264 u265 u266 u267 u268 u269 u270 u271 u272 u273 u274 u275 u276 u277 u278 u279 : Value) :
    Code.wp Tryz.prog (nthRest 3) (NthQ W g (i + 1 + D.length) a (n) N) { tmps := #[.pointer (some ⟨g, 0, none⟩), undef, .int .i64 a, .int .i64 0, .nilIface, u5, u6, u7, u8, u9, u10, u11, u12, u13, u14, u15, u16, u17, u18, u19, u20, u21, u22, u23, u24, u25, u26, u27, u28, u29, u30, u31, u32, u33, u34, u35, u36, u37, u38, u39, u40, u41, u42, u43, u44, u45, u46, u47, u48, u49, u50, u51, u52, u53, u54, u55, u56, u57, u58, u59, u60, u61, u62, u63, u64, u65, u66, u67, u68, u69, u70, u71, u72, u73, u74, u75, u76, u77, u78, u79, u80, u81, u82, u83, u84, u85, u86, u87, u88, u89, u90, u91, u92, u93, u94, u95, u96, u97, u98, u99, u100, u101, u102, u103, u104, u105, u106, u107, u108, u109, u110, u111, u112, u113, u114, u115, u116, u117, u118, u119, u120, u121, u122, u123, u124, u125, u126, u127, u128, u129, u130, u131, u132, u133, u134, u135, u136, u137, u138, u139, u140, u141, u142, u143, u144, u145, u146, u147, u148, u149, u150, u151, u152, u153, u154, u155, u156, u157, u158, u159, u160, u161, u162, u163, u164, u165, u166, u167, u168, u169, u170, u171, u172, u173, u174, u175, u176, u177, u178, u179, u180, u181, u182, u183, u184, u185, u186, u187, u188, u189, u190, u191, u192, u193, u194, u195, u196, u197, u198, u199, u200, u201, u202, u203, u204, u205, u206, u207, u208, u209, u210, u211, u212, u213, u214, u215, u216, u217, u218, u219, u220, u221, u222, u223, u224, u225, u226, u227, u228, u229, u230, u231, u232, u233, u234, u235, u236, u237, u238, u239, u240, u241, u242, u243, u244, u245, u246, u247, u248, u249, u250, u251, u252, u253, u254, u255, u256, u257, u258, u259, u260, u261, u262, u263, u264, u265, u266, u267, u268, u269, u270, u271, u272, u273, u274, u275, u276, u277, u278, u279], defers := [] } w := by
  have hd1 := drop_next hd
  have hi : i < s.size := drop_lt hd
  have hc : s[i] = 43 := drop_get hd hi
  have hlt : (i : Int) < (s.size : Int) := by omega
  have S1 := Lib.hid (fun W' d0 d1 fz => skip_any g s i 0 (43 :: (D ++ rest)) W' hs (by omega) d0 d1 fz (by rw [hd]; rfl) (by intro c h; simp at h; subst h; decide))
  have S2 := Lib.hid (fun W' d0 d1 fz => skip_any g s (i + 1) 0 (D ++ rest) W' hs (by omega) d0 d1 fz (by rw [hd1]; rfl) (by
    cases D with
    | nil => exact absurd rfl hne
    | cons d l =>
      intro c h; simp at h; subst h
      have := of_decide_eq_true (hD d (by simp))
      refine ⟨?_, ?_, ?_, ?_, ?_, ?_⟩ <;> (rintro rfl; revert this; decide)))
  have S3 := Lib.hid (fun W' d0 d1 fz => parseInteger_any g s (i + 1) D rest n W' hs d0 d1 fz hd1 hD hne hl hn hr)
  clear hd hd1 hD hne hl hn hr
  have F := Lib.hid (fun (w' : World) (j : Nat) (h : Pos W w' g j) => h.facts c0 c1 f1)
  clear c0 c1 f1
  obtain ⟨d0, d1, df⟩ := F.out _ _ hp
  conv => arg 2; whnf
  go_wp2_with fail
  refine (S1.out _ d0 d1 df).mono ?_
  rintro e w1 ⟨rfl, m1⟩
  have p1 := hp.moved m1
  rw [Nat.add_zero] at p1
  clear d0 d1 df m1
  obtain ⟨d0, d1, df⟩ := F.out _ _ p1
  go_wp2_with fail
  go_quiet (fail)
  go_wp2_with fail
  go_quiet (fail)
  go_wp2_with fail
  refine (S2.out _ ?_ ?_ ?_).mono ?_
  · exact (F.out _ _ ((p1.drewN _).set (i + 1))).1
  · exact (F.out _ _ ((p1.drewN _).set (i + 1))).2.1
  · exact (F.out _ _ ((p1.drewN _).set (i + 1))).2.2
  rintro e w2 ⟨rfl, m2⟩
  have p3 := ((p1.drewN _).set (i + 1)).moved m2
  rw [Nat.add_zero] at p3
  clear d0 d1 df m2
  obtain ⟨d0, d1, df⟩ := F.out _ _ p3
  go_wp2_with fail
  refine (S3.out _ d0 d1 df).mono ?_
  rintro e w3 ⟨rfl, m3⟩
  have p4 := p3.trans m3
  clear d0 d1 df m3
  go_wp2_with fail
  refine jumpsQ_ret ?_
  go_ret3
  exact ⟨rfl, p4⟩


set_option maxHeartbeats 2000000 in
set_option maxRecDepth 1000000 in
/-- readN, at - and a numeral. -/
theorem readN_minus (g : Nat) (s : ByteArray) (i : Nat) (D rest : List UInt8) (a n : Int) (N : Nat) (W w : World) (hs : s.size ≤ 140737488351232)
    (c0 : W.cell? ⟨g, 0, none⟩ = some (.string s)) {v0 : Value} (c1 : W.cell? ⟨g, 1, none⟩ = some v0) (f1 : W.frozen? ⟨g, 1, none⟩ = false) (hp : Pos W w g i)
    (hd : s.data.toList.drop i = 45 :: (D ++ rest)) (hD : ∀ c ∈ D, digB c = true) (hne : D ≠ []) (hl : D.length ≤ 18) (hn : Lib.atoi D = some n) (hr : noDig rest) (hn0 : 0 ≤ n) (hn1 : n ≤ 999999)
    (u5 u6 u7 u8 u9 u10 u11 u12 u13 u14 u15 u16 u17 u18 u19 u20 u21 u22 u23 u24 u25 u26 u27 u28 u29 u30 u31 u32 u33 u34 u35 u36 u37 u38 u39 u40 u41 u42 u43 u44 u45 u46 u47 u48 u49 u50 u51 u52 u53 u54 u55 u56 u57 u58 u59 u60 u61 u62 u63 u64 u65 u66 u67 u68 u69 u70 u71 u72 u73 u74 u75 u76 u77 u78 u79 u80 u81 u82 u83 u84 u85 u86 u87 u88 u89 u90 u91 u92 u93 u94 u95 u96 u97 u98 u99 u100 u101 u102 u103 u104 u105 u106 u107 u108 u109 u110 u111 u112 u113 u114 u115 u116 u117 u118 u119 u120 u121 u122 u123 u124 u125 u126 u127 u128 u129 u130 u131 u132 u133 u134 u135 u136 u137 u138 u139 u140 u141 u142 u143 u144 u145 u146 u147 u148 u149 u150 u151 u152 u153 u154 u155 u156 u157 u158 u159 u160 u161 u162 u163 u164 u165 u166 u167 u168 u169 u170 u171 u172 u173 u174 u175 u176 u177 u178 u179 u180 u181 u182 u183 u184 u185 u186 u187 u188 u189 u190 u191 u192 u193 u194 u195 u196 u197 u198 u199 u200 u201 u202 u203 u204 u205 u206 u207 u208 u209 u210 u211 u212 u213 u214 u215 u216 u217 u218 u219 u220 u221 u222 u223 u224 u225 u226 u227 u228 u229 u230 u231 u232 u233 u234 u235 u236 u237 u238 u239 u240 u241 u242 u243 u244 u245 u246 u247 u248 u249 u250 u251 u252 u253 u254 u255 u256 u257 u258 u259 u260 u261 u262 u263 u264 u265 u266 u267 u268 u269 u270 u271 u272 u273 u274 u275 u276 u277 u278 u279 : Value) :
    Code.wp Tryz.prog (nthRest 3) (NthQ W g (i + 1 + D.length) a (-n) N) { tmps := #[.pointer (some ⟨g, 0, none⟩), undef, .int .i64 a, .int .i64 0, .nilIface, u5, u6, u7, u8, u9, u10, u11, u12, u13, u14, u15, u16, u17, u18, u19, u20, u21, u22, u23, u24, u25, u26, u27, u28, u29, u30, u31, u32, u33, u34, u35, u36, u37, u38, u39, u40, u41, u42, u43, u44, u45, u46, u47, u48, u49, u50, u51, u52, u53, u54, u55, u56, u57, u58, u59, u60, u61, u62, u63, u64, u65, u66, u67, u68, u69, u70, u71, u72, u73, u74, u75, u76, u77, u78, u79, u80, u81, u82, u83, u84, u85, u86, u87, u88, u89, u90, u91, u92, u93, u94, u95, u96, u97, u98, u99, u100, u101, u102, u103, u104, u105, u106, u107, u108, u109, u110, u111, u112, u113, u114, u115, u116, u117, u118, u119, u120, u121, u122, u123, u124, u125, u126, u127, u128, u129, u130, u131, u132, u133, u134, u135, u136, u137, u138, u139, u140, u141, u142, u143, u144, u145, u146, u147, u148, u149, u150, u151, u152, u153, u154, u155, u156, u157, u158, u159, u160, u161, u162, u163, u164, u165, u166, u167, u168, u169, u170, u171, u172, u173, u174, u175, u176, u177, u178, u179, u180, u181, u182, u183, u184, u185, u186, u187, u188, u189, u190, u191, u192, u193, u194, u195, u196, u197, u198, u199, u200, u201, u202, u203, u204, u205, u206, u207, u208, u209, u210, u211, u212, u213, u214, u215, u216, u217, u218, u219, u220, u221, u222, u223, u224, u225, u226, u227, u228, u229, u230, u231, u232, u233, u234, u235, u236, u237, u238, u239, u240, u241, u242, u243, u244, u245, u246, u247, u248, u249, u250, u251, u252, u253, u254, u255, u256, u257, u258, u259, u260, u261, u262, u263, u264, u265, u266, u267, u268, u269, u270, u271, u272, u273, u274, u275, u276, u277, u278, u279], defers := [] } w := by
  have hd1 := drop_next hd
  have hi : i < s.size := drop_lt hd
  have hc : s[i] = 45 := drop_get hd hi
  have hlt : (i : Int) < (s.size : Int) := by omega
  have S1 := Lib.hid (fun W' d0 d1 fz => skip_any g s i 0 (45 :: (D ++ rest)) W' hs (by omega) d0 d1 fz (by rw [hd]; rfl) (by intro c h; simp at h; subst h; decide))
  have S2 := Lib.hid (fun W' d0 d1 fz => skip_any g s (i + 1) 0 (D ++ rest) W' hs (by omega) d0 d1 fz (by rw [hd1]; rfl) (by
    cases D with
    | nil => exact absurd rfl hne
    | cons d l =>
      intro c h; simp at h; subst h
      have := of_decide_eq_true (hD d (by simp))
      refine ⟨?_, ?_, ?_, ?_, ?_, ?_⟩ <;> (rintro rfl; revert this; decide)))
  have S3 := Lib.hid (fun W' d0 d1 fz => parseInteger_any g s (i + 1) D rest n W' hs d0 d1 fz hd1 hD hne hl hn hr)
  clear hd hd1 hD hne hl hn hr
  have F := Lib.hid (fun (w' : World) (j : Nat) (h : Pos W w' g j) => h.facts c0 c1 f1)
  clear c0 c1 f1
  obtain ⟨d0, d1, df⟩ := F.out _ _ hp
  conv => arg 2; whnf
  go_wp2_with fail
  refine (S1.out _ d0 d1 df).mono ?_
  rintro e w1 ⟨rfl, m1⟩
  have p1 := hp.moved m1
  rw [Nat.add_zero] at p1
  clear d0 d1 df m1
  obtain ⟨d0, d1, df⟩ := F.out _ _ p1
  go_wp2_with fail
  go_quiet (fail)
  go_wp2_with fail
  go_quiet (fail)
  go_wp2_with fail
  refine (S2.out _ ?_ ?_ ?_).mono ?_
  · exact (F.out _ _ ((p1.drewN _).set (i + 1))).1
  · exact (F.out _ _ ((p1.drewN _).set (i + 1))).2.1
  · exact (F.out _ _ ((p1.drewN _).set (i + 1))).2.2
  rintro e w2 ⟨rfl, m2⟩
  have p3 := ((p1.drewN _).set (i + 1)).moved m2
  rw [Nat.add_zero] at p3
  clear d0 d1 df m2
  obtain ⟨d0, d1, df⟩ := F.out _ _ p3
  go_wp2_with fail
  refine (S3.out _ d0 d1 df).mono ?_
  rintro e w3 ⟨rfl, m3⟩
  have p4 := p3.trans m3
  clear d0 d1 df m3
  go_wp2_with fail
  refine jumpsQ_ret ?_
  go_ret3
  exact ⟨rfl, p4⟩

theorem ten_digits (c : UInt8) (h : digB c = true) : c = 48 ∨ c = 49 ∨ c = 50 ∨ c = 51 ∨ c = 52 ∨ c = 53 ∨ c = 54 ∨ c = 55 ∨ c = 56 ∨ c = 57 := by
  have h1 : ∀ n : Fin 256, digB (UInt8.ofNat n.val) = true → UInt8.ofNat n.val = 48 ∨ UInt8.ofNat n.val = 49 ∨ UInt8.ofNat n.val = 50 ∨ UInt8.ofNat n.val = 51 ∨ UInt8.ofNat n.val = 52 ∨ UInt8.ofNat n.val = 53 ∨ UInt8.ofNat n.val = 54 ∨ UInt8.ofNat n.val = 55 ∨ UInt8.ofNat n.val = 56 ∨ UInt8.ofNat n.val = 57 := by decide +kernel
  have := h1 ⟨c.toNat, UInt8.toNat_lt c⟩
  simp only [UInt8.ofNat_toNat] at this
  exact this h

theorem nthLabel1 : findLabel nthBody 1 = some (nthRest 1) := by kernel_rfl
theorem nthLabel2 : findLabel nthBody 2 = some (nthRest 2) := by kernel_rfl
theorem nthLabel3 : findLabel nthBody 3 = some (nthRest 3) := by kernel_rfl
theorem nthLabel5 : findLabel nthBody 5 = some (nthRest 5) := by kernel_rfl

set_option maxHeartbeats 2000000 in
set_option maxRecDepth 1000000 in
/-- readN, at a closing bracket. -/
theorem readN_end (g : Nat) (s : ByteArray) (i : Nat) (E : Nat) (a : Int) (N : Nat) (W w : World) (hs : s.size ≤ 140737488351232)
    (c0 : W.cell? ⟨g, 0, none⟩ = some (.string s)) {v0 : Value} (c1 : W.cell? ⟨g, 1, none⟩ = some v0) (f1 : W.frozen? ⟨g, 1, none⟩ = false) (hp : Pos W w g i) (hE : E = i) {rest : List UInt8} (hd : s.data.toList.drop i = 41 :: rest)
    (u5 u6 u7 u8 u9 u10 u11 u12 u13 u14 u15 u16 u17 u18 u19 u20 u21 u22 u23 u24 u25 u26 u27 u28 u29 u30 u31 u32 u33 u34 u35 u36 u37 u38 u39 u40 u41 u42 u43 u44 u45 u46 u47 u48 u49 u50 u51 u52 u53 u54 u55 u56 u57 u58 u59 u60 u61 u62 u63 u64 u65 u66 u67 u68 u69 u70 u71 u72 u73 u74 u75 u76 u77 u78 u79 u80 u81 u82 u83 u84 u85 u86 u87 u88 u89 u90 u91 u92 u93 u94 u95 u96 u97 u98 u99 u100 u101 u102 u103 u104 u105 u106 u107 u108 u109 u110 u111 u112 u113 u114 u115 u116 u117 u118 u119 u120 u121 u122 u123 u124 u125 u126 u127 u128 u129 u130 u131 u132 u133 u134 u135 u136 u137 u138 u139 u140 u141 u142 u143 u144 u145 u146 u147 u148 u149 u150 u151 u152 u153 u154 u155 u156 u157 u158 u159 u160 u161 u162 u163 u164 u165 u166 u167 u168 u169 u170 u171 u172 u173 u174 u175 u176 u177 u178 u179 u180 u181 u182 u183 u184 u185 u186 u187 u188 u189 u190 u191 u192 u193 u194 u195 u196 u197 u198 u199 u200 u201 u202 u203 u204 u205 u206 u207 u208 u209 u210 u211 u212 u213 u214 u215 u216 u217 u218 u219 u220 u221 u222 u223 u224 u225 u226 u227 u228 u229 u230 u231 u232 u233 u234 u235 u236 u237 u238 u239 u240 u241 u242 u243 u244 u245 u246 u247 u248 u249 u250 u251 u252 u253 u254 u255 u256 u257 u258 u259 u260 u261 u262 u263 u264 u265 u266 u267 u268 u269 u270 u271 u272 u273 u274 u275 u276 u277 u278 u279 : Value) :
    Code.wp Tryz.prog (nthRest 3) (NthQ W g E a 0 N) { tmps := #[.pointer (some ⟨g, 0, none⟩), undef, .int .i64 a, .int .i64 0, .nilIface, u5, u6, u7, u8, u9, u10, u11, u12, u13, u14, u15, u16, u17, u18, u19, u20, u21, u22, u23, u24, u25, u26, u27, u28, u29, u30, u31, u32, u33, u34, u35, u36, u37, u38, u39, u40, u41, u42, u43, u44, u45, u46, u47, u48, u49, u50, u51, u52, u53, u54, u55, u56, u57, u58, u59, u60, u61, u62, u63, u64, u65, u66, u67, u68, u69, u70, u71, u72, u73, u74, u75, u76, u77, u78, u79, u80, u81, u82, u83, u84, u85, u86, u87, u88, u89, u90, u91, u92, u93, u94, u95, u96, u97, u98, u99, u100, u101, u102, u103, u104, u105, u106, u107, u108, u109, u110, u111, u112, u113, u114, u115, u116, u117, u118, u119, u120, u121, u122, u123, u124, u125, u126, u127, u128, u129, u130, u131, u132, u133, u134, u135, u136, u137, u138, u139, u140, u141, u142, u143, u144, u145, u146, u147, u148, u149, u150, u151, u152, u153, u154, u155, u156, u157, u158, u159, u160, u161, u162, u163, u164, u165, u166, u167, u168, u169, u170, u171, u172, u173, u174, u175, u176, u177, u178, u179, u180, u181, u182, u183, u184, u185, u186, u187, u188, u189, u190, u191, u192, u193, u194, u195, u196, u197, u198, u199, u200, u201, u202, u203, u204, u205, u206, u207, u208, u209, u210, u211, u212, u213, u214, u215, u216, u217, u218, u219, u220, u221, u222, u223, u224, u225, u226, u227, u228, u229, u230, u231, u232, u233, u234, u235, u236, u237, u238, u239, u240, u241, u242, u243, u244, u245, u246, u247, u248, u249, u250, u251, u252, u253, u254, u255, u256, u257, u258, u259, u260, u261, u262, u263, u264, u265, u266, u267, u268, u269, u270, u271, u272, u273, u274, u275, u276, u277, u278, u279], defers := [] } w := by
  subst hE
  have hi : E < s.size := drop_lt hd
  have hc : s[E] = 41 := drop_get hd hi
  have hlt : (E : Int) < (s.size : Int) := by omega
  have S1 := Lib.hid (fun W' d0 d1 fz => skip_any g s E 0 (41 :: rest) W' hs (by omega) d0 d1 fz (by rw [hd]; rfl) (by intro c h; simp at h; subst h; decide))
  clear hd
  have F := Lib.hid (fun (w' : World) (j : Nat) (h : Pos W w' g j) => h.facts c0 c1 f1)
  clear c0 c1 f1
  obtain ⟨d0, d1, df⟩ := F.out _ _ hp
  conv => arg 2; whnf
  go_wp2_with fail
  refine (S1.out _ d0 d1 df).mono ?_
  rintro e w1 ⟨rfl, m1⟩
  have p1 := hp.moved m1
  rw [Nat.add_zero] at p1
  clear d0 d1 df m1
  obtain ⟨d0, d1, df⟩ := F.out _ _ p1
  go_wp2_with fail
  go_quiet (fail)
  go_wp2_with fail
  go_quiet (fail)
  go_wp2_with fail
  refine jumpsQ_ret ?_
  go_ret3
  exact ⟨rfl, p1.drewN _⟩

set_option maxHeartbeats 2000000 in
set_option maxRecDepth 1000000 in
/-- readA, at n. -/
theorem readA_n (g : Nat) (s : ByteArray) (i : Nat) (E : Nat) (ra rb : Int) (N : Nat) (W w : World) (_hs : s.size ≤ 140737488351232)
    (c0 : W.cell? ⟨g, 0, none⟩ = some (.string s)) {v0 : Value} (c1 : W.cell? ⟨g, 1, none⟩ = some v0) (f1 : W.frozen? ⟨g, 1, none⟩ = false) (hp : Pos W w g i) (a : Int) {rest : List UInt8} (hd : s.data.toList.drop i = 110 :: rest)
    (H3 : ∀ (u5 u6 u7 u8 u9 u10 u11 u12 u13 u14 u15 u16 u17 u18 u19 u20 u21 u22 u23 u24 u25 u26 u27 u28 u29 u30 u31 u32 u33 u34 u35 u36 u37 u38 u39 u40 u41 u42 u43 u44 u45 u46 u47 u48 u49 u50 u51 u52 u53 u54 u55 u56 u57 u58 u59 u60 u61 u62 u63 u64 u65 u66 u67 u68 u69 u70 u71 u72 u73 u74 u75 u76 u77 u78 u79 u80 u81 u82 u83 u84 u85 u86 u87 u88 u89 u90 u91 u92 u93 u94 u95 u96 u97 u98 u99 u100 u101 u102 u103 u104 u105 u106 u107 u108 u109 u110 u111 u112 u113 u114 u115 u116 u117 u118 u119 u120 u121 u122 u123 u124 u125 u126 u127 u128 u129 u130 u131 u132 u133 u134 u135 u136 u137 u138 u139 u140 u141 u142 u143 u144 u145 u146 u147 u148 u149 u150 u151 u152 u153 u154 u155 u156 u157 u158 u159 u160 u161 u162 u163 u164 u165 u166 u167 u168 u169 u170 u171 u172 u173 u174 u175 u176 u177 u178 u179 u180 u181 u182 u183 u184 u185 u186 u187 u188 u189 u190 u191 u192 u193 u194 u195 u196 u197 u198 u199 u200 u201 u202 u203 u204 u205 u206 u207 u208 u209 u210 u211 u212 u213 u214 u215 u216 u217 u218 u219 u220 u221 u222 u223 u224 u225 u226 u227 u228 u229 u230 u231 u232 u233 u234 u235 u236 u237 u238 u239 u240 u241 u242 u243 u244 u245 u246 u247 u248 u249 u250 u251 u252 u253 u254 u255 u256 u257 u258 u259 u260 u261 u262 u263 u264 u265 u266 u267 u268 u269 u270 u271 u272 u273 u274 u275 u276 u277 u278 u279 : Value) (w' : World), Pos W w' g (i + 1) → Code.wp Tryz.prog (nthRest 3) (NthQ W g E ra rb N) { tmps := #[.pointer (some ⟨g, 0, none⟩), undef, .int .i64 a, .int .i64 0, .nilIface, u5, u6, u7, u8, u9, u10, u11, u12, u13, u14, u15, u16, u17, u18, u19, u20, u21, u22, u23, u24, u25, u26, u27, u28, u29, u30, u31, u32, u33, u34, u35, u36, u37, u38, u39, u40, u41, u42, u43, u44, u45, u46, u47, u48, u49, u50, u51, u52, u53, u54, u55, u56, u57, u58, u59, u60, u61, u62, u63, u64, u65, u66, u67, u68, u69, u70, u71, u72, u73, u74, u75, u76, u77, u78, u79, u80, u81, u82, u83, u84, u85, u86, u87, u88, u89, u90, u91, u92, u93, u94, u95, u96, u97, u98, u99, u100, u101, u102, u103, u104, u105, u106, u107, u108, u109, u110, u111, u112, u113, u114, u115, u116, u117, u118, u119, u120, u121, u122, u123, u124, u125, u126, u127, u128, u129, u130, u131, u132, u133, u134, u135, u136, u137, u138, u139, u140, u141, u142, u143, u144, u145, u146, u147, u148, u149, u150, u151, u152, u153, u154, u155, u156, u157, u158, u159, u160, u161, u162, u163, u164, u165, u166, u167, u168, u169, u170, u171, u172, u173, u174, u175, u176, u177, u178, u179, u180, u181, u182, u183, u184, u185, u186, u187, u188, u189, u190, u191, u192, u193, u194, u195, u196, u197, u198, u199, u200, u201, u202, u203, u204, u205, u206, u207, u208, u209, u210, u211, u212, u213, u214, u215, u216, u217, u218, u219, u220, u221, u222, u223, u224, u225, u226, u227, u228, u229, u230, u231, u232, u233, u234, u235, u236, u237, u238, u239, u240, u241, u242, u243, u244, u245, u246, u247, u248, u249, u250, u251, u252, u253, u254, u255, u256, u257, u258, u259, u260, u261, u262, u263, u264, u265, u266, u267, u268, u269, u270, u271, u272, u273, u274, u275, u276, u277, u278, u279], defers := [] } w')
    (u5 u6 u7 u8 u9 u10 u11 u12 u13 u14 u15 u16 u17 u18 u19 u20 u21 u22 u23 u24 u25 u26 u27 u28 u29 u30 u31 u32 u33 u34 u35 u36 u37 u38 u39 u40 u41 u42 u43 u44 u45 u46 u47 u48 u49 u50 u51 u52 u53 u54 u55 u56 u57 u58 u59 u60 u61 u62 u63 u64 u65 u66 u67 u68 u69 u70 u71 u72 u73 u74 u75 u76 u77 u78 u79 u80 u81 u82 u83 u84 u85 u86 u87 u88 u89 u90 u91 u92 u93 u94 u95 u96 u97 u98 u99 u100 u101 u102 u103 u104 u105 u106 u107 u108 u109 u110 u111 u112 u113 u114 u115 u116 u117 u118 u119 u120 u121 u122 u123 u124 u125 u126 u127 u128 u129 u130 u131 u132 u133 u134 u135 u136 u137 u138 u139 u140 u141 u142 u143 u144 u145 u146 u147 u148 u149 u150 u151 u152 u153 u154 u155 u156 u157 u158 u159 u160 u161 u162 u163 u164 u165 u166 u167 u168 u169 u170 u171 u172 u173 u174 u175 u176 u177 u178 u179 u180 u181 u182 u183 u184 u185 u186 u187 u188 u189 u190 u191 u192 u193 u194 u195 u196 u197 u198 u199 u200 u201 u202 u203 u204 u205 u206 u207 u208 u209 u210 u211 u212 u213 u214 u215 u216 u217 u218 u219 u220 u221 u222 u223 u224 u225 u226 u227 u228 u229 u230 u231 u232 u233 u234 u235 u236 u237 u238 u239 u240 u241 u242 u243 u244 u245 u246 u247 u248 u249 u250 u251 u252 u253 u254 u255 u256 u257 u258 u259 u260 u261 u262 u263 u264 u265 u266 u267 u268 u269 u270 u271 u272 u273 u274 u275 u276 u277 u278 u279 : Value) :
    Code.wp Tryz.prog (nthRest 5) (NthQ W g E ra rb (N + 1)) { tmps := #[.pointer (some ⟨g, 0, none⟩), undef, .int .i64 a, .int .i64 0, .nilIface, u5, u6, u7, u8, u9, u10, u11, u12, u13, u14, u15, u16, u17, u18, u19, u20, u21, u22, u23, u24, u25, u26, u27, u28, u29, u30, u31, u32, u33, u34, u35, u36, u37, u38, u39, u40, u41, u42, u43, u44, u45, u46, u47, u48, u49, u50, u51, u52, u53, u54, u55, u56, u57, u58, u59, u60, u61, u62, u63, u64, u65, u66, u67, u68, u69, u70, u71, u72, u73, u74, u75, u76, u77, u78, u79, u80, u81, u82, u83, u84, u85, u86, u87, u88, u89, u90, u91, u92, u93, u94, u95, u96, u97, u98, u99, u100, u101, u102, u103, u104, u105, u106, u107, u108, u109, u110, u111, u112, u113, u114, u115, u116, u117, u118, u119, u120, u121, u122, u123, u124, u125, u126, u127, u128, u129, u130, u131, u132, u133, u134, u135, u136, u137, u138, u139, u140, u141, u142, u143, u144, u145, u146, u147, u148, u149, u150, u151, u152, u153, u154, u155, u156, u157, u158, u159, u160, u161, u162, u163, u164, u165, u166, u167, u168, u169, u170, u171, u172, u173, u174, u175, u176, u177, u178, u179, u180, u181, u182, u183, u184, u185, u186, u187, u188, u189, u190, u191, u192, u193, u194, u195, u196, u197, u198, u199, u200, u201, u202, u203, u204, u205, u206, u207, u208, u209, u210, u211, u212, u213, u214, u215, u216, u217, u218, u219, u220, u221, u222, u223, u224, u225, u226, u227, u228, u229, u230, u231, u232, u233, u234, u235, u236, u237, u238, u239, u240, u241, u242, u243, u244, u245, u246, u247, u248, u249, u250, u251, u252, u253, u254, u255, u256, u257, u258, u259, u260, u261, u262, u263, u264, u265, u266, u267, u268, u269, u270, u271, u272, u273, u274, u275, u276, u277, u278, u279], defers := [] } w := by
  have hi : i < s.size := drop_lt hd
  have hc : s[i] = 110 := drop_get hd hi
  have hlt : (i : Int) < (s.size : Int) := by omega
  have HH := Lib.hid H3
  clear hd H3
  have F := Lib.hid (fun (w' : World) (j : Nat) (h : Pos W w' g j) => h.facts c0 c1 f1)
  clear c0 c1 f1
  obtain ⟨d0, d1, df⟩ := F.out _ _ hp
  conv => arg 2; whnf
  go_wp2_with fail
  go_quiet (fail)
  go_wp2_with fail
  go_quiet (fail)
  go_wp2_with fail
  go_step3
  refine jumpsQ_goto nthLabel3 ?_
  exact HH.out _ _ _ _ _ _ _ _ _ _ _ _ _ _ _ _ _ _ _ _ _ _ _ _ _ _ _ _ _ _ _ _ _ _ _ _ _ _ _ _ _ _ _ _ _ _ _ _ _ _ _ _ _ _ _ _ _ _ _ _ _ _ _ _ _ _ _ _ _ _ _ _ _ _ _ _ _ _ _ _ _ _ _ _ _ _ _ _ _ _ _ _ _ _ _ _ _ _ _ _ _ _ _ _ _ _ _ _ _ _ _ _ _ _ _ _ _ _ _ _ _ _ _ _ _ _ _ _ _ _ _ _ _ _ _ _ _ _ _ _ _ _ _ _ _ _ _ _ _ _ _ _ _ _ _ _ _ _ _ _ _ _ _ _ _ _ _ _ _ _ _ _ _ _ _ _ _ _ _ _ _ _ _ _ _ _ _ _ _ _ _ _ _ _ _ _ _ _ _ _ _ _ _ _ _ _ _ _ _ _ _ _ _ _ _ _ _ _ _ _ _ _ _ _ _ _ _ _ _ _ _ _ _ _ _ _ _ _ _ _ _ _ _ _ _ _ _ _ _ _ _ _ _ _ _ _ _ _ _ _ _ _ _ _ _ _ _ _ _ _ _ _ _ _ _ _ ((hp.drewN _).set (i + 1))

set_option maxHeartbeats 2000000 in
set_option maxRecDepth 1000000 in
/-- readA, at a closing bracket: the number read is b. -/
theorem readA_end (g : Nat) (s : ByteArray) (i : Nat) (E : Nat) (a : Int) (N : Nat) (W w : World) (_hs : s.size ≤ 140737488351232)
    (c0 : W.cell? ⟨g, 0, none⟩ = some (.string s)) {v0 : Value} (c1 : W.cell? ⟨g, 1, none⟩ = some v0) (f1 : W.frozen? ⟨g, 1, none⟩ = false) (hp : Pos W w g i) (hE : E = i) {rest : List UInt8} (hd : s.data.toList.drop i = 41 :: rest)
    (u5 u6 u7 u8 u9 u10 u11 u12 u13 u14 u15 u16 u17 u18 u19 u20 u21 u22 u23 u24 u25 u26 u27 u28 u29 u30 u31 u32 u33 u34 u35 u36 u37 u38 u39 u40 u41 u42 u43 u44 u45 u46 u47 u48 u49 u50 u51 u52 u53 u54 u55 u56 u57 u58 u59 u60 u61 u62 u63 u64 u65 u66 u67 u68 u69 u70 u71 u72 u73 u74 u75 u76 u77 u78 u79 u80 u81 u82 u83 u84 u85 u86 u87 u88 u89 u90 u91 u92 u93 u94 u95 u96 u97 u98 u99 u100 u101 u102 u103 u104 u105 u106 u107 u108 u109 u110 u111 u112 u113 u114 u115 u116 u117 u118 u119 u120 u121 u122 u123 u124 u125 u126 u127 u128 u129 u130 u131 u132 u133 u134 u135 u136 u137 u138 u139 u140 u141 u142 u143 u144 u145 u146 u147 u148 u149 u150 u151 u152 u153 u154 u155 u156 u157 u158 u159 u160 u161 u162 u163 u164 u165 u166 u167 u168 u169 u170 u171 u172 u173 u174 u175 u176 u177 u178 u179 u180 u181 u182 u183 u184 u185 u186 u187 u188 u189 u190 u191 u192 u193 u194 u195 u196 u197 u198 u199 u200 u201 u202 u203 u204 u205 u206 u207 u208 u209 u210 u211 u212 u213 u214 u215 u216 u217 u218 u219 u220 u221 u222 u223 u224 u225 u226 u227 u228 u229 u230 u231 u232 u233 u234 u235 u236 u237 u238 u239 u240 u241 u242 u243 u244 u245 u246 u247 u248 u249 u250 u251 u252 u253 u254 u255 u256 u257 u258 u259 u260 u261 u262 u263 u264 u265 u266 u267 u268 u269 u270 u271 u272 u273 u274 u275 u276 u277 u278 u279 : Value) :
    Code.wp Tryz.prog (nthRest 5) (NthQ W g E 0 a N) { tmps := #[.pointer (some ⟨g, 0, none⟩), undef, .int .i64 a, .int .i64 0, .nilIface, u5, u6, u7, u8, u9, u10, u11, u12, u13, u14, u15, u16, u17, u18, u19, u20, u21, u22, u23, u24, u25, u26, u27, u28, u29, u30, u31, u32, u33, u34, u35, u36, u37, u38, u39, u40, u41, u42, u43, u44, u45, u46, u47, u48, u49, u50, u51, u52, u53, u54, u55, u56, u57, u58, u59, u60, u61, u62, u63, u64, u65, u66, u67, u68, u69, u70, u71, u72, u73, u74, u75, u76, u77, u78, u79, u80, u81, u82, u83, u84, u85, u86, u87, u88, u89, u90, u91, u92, u93, u94, u95, u96, u97, u98, u99, u100, u101, u102, u103, u104, u105, u106, u107, u108, u109, u110, u111, u112, u113, u114, u115, u116, u117, u118, u119, u120, u121, u122, u123, u124, u125, u126, u127, u128, u129, u130, u131, u132, u133, u134, u135, u136, u137, u138, u139, u140, u141, u142, u143, u144, u145, u146, u147, u148, u149, u150, u151, u152, u153, u154, u155, u156, u157, u158, u159, u160, u161, u162, u163, u164, u165, u166, u167, u168, u169, u170, u171, u172, u173, u174, u175, u176, u177, u178, u179, u180, u181, u182, u183, u184, u185, u186, u187, u188, u189, u190, u191, u192, u193, u194, u195, u196, u197, u198, u199, u200, u201, u202, u203, u204, u205, u206, u207, u208, u209, u210, u211, u212, u213, u214, u215, u216, u217, u218, u219, u220, u221, u222, u223, u224, u225, u226, u227, u228, u229, u230, u231, u232, u233, u234, u235, u236, u237, u238, u239, u240, u241, u242, u243, u244, u245, u246, u247, u248, u249, u250, u251, u252, u253, u254, u255, u256, u257, u258, u259, u260, u261, u262, u263, u264, u265, u266, u267, u268, u269, u270, u271, u272, u273, u274, u275, u276, u277, u278, u279], defers := [] } w := by
  subst hE
  have hi : E < s.size := drop_lt hd
  have hc : s[E] = 41 := drop_get hd hi
  have hlt : (E : Int) < (s.size : Int) := by omega
  clear hd
  have F := Lib.hid (fun (w' : World) (j : Nat) (h : Pos W w' g j) => h.facts c0 c1 f1)
  clear c0 c1 f1
  obtain ⟨d0, d1, df⟩ := F.out _ _ hp
  conv => arg 2; whnf
  go_wp2_with fail
  go_quiet (fail)
  go_wp2_with fail
  go_quiet (fail)
  go_wp2_with fail
  refine jumpsQ_ret ?_
  go_ret3
  exact ⟨rfl, hp.drewN _⟩

end Go.Proofs.YtoindammaphefaaGreatDoor
