/-
  DERIVED: THE SHELF's CONTRACTS AT THIS DUMP, IN PLAIN WORDS (tools/lay-plain.mjs out of 'TryzLibCut.lean', which tools/lay-shelf.mjs wrote): THE SAME DECLARATIONS UNDER THE SAME NAMES: 'import', 'namespace', 'open', 'def', 'theorem' AND NOTHING ELSE: no command of the shelf's: FOR A HAND-IN. Each laying: the table of numbers ('.._ren') and one theorem, a field a fact of the dump's own or the kernel's comparison; each contract: ONE APPLICATION.
-/
import Derived.Shelf.Strconv.Itoa3
import Derived.Shelf.Strings.OnBuilder
import Derived.Test.YtoindammaphefaaGreatDoorProg
namespace Go.Proofs
open Go.Shelf
def Tryz.lays156_ren : Go.Shelf.Ren := ⟨fun | 156 => 27 | 165 => 30 | 166 => 31 | 169 => 32 | 240 => 35 | 241 => 36 | 276 => 44 | 277 => 45 | n => n, fun | 31 => 50 | 9 => 9 | 3 => 3 | 4 => 4 | 0 => 0 | 20 => 20 | 72 => 85 | 76 => 87 | 70 => 83 | 37 => 82 | 75 => 52 | 127 => 92 | 164 => 115 | 5 => 5 | 80 => 68 | n => n, fun | n => n⟩
theorem Tryz.lays156 : Go.Proofs.Lays.n156 Tryz.prog Tryz.lays156_ren := {
  mixed := by kernel_rfl
  f156 := Tryz.func27.trans (congrArg some (by kernel_rfl))
  f165 := Tryz.func30.trans (congrArg some (by kernel_rfl))
  f166 := Tryz.func31.trans (congrArg some (by kernel_rfl))
  f169 := Tryz.func32.trans (congrArg some (by kernel_rfl))
  f240 := Tryz.func35.trans (congrArg some (by kernel_rfl))
  f241 := Tryz.func36.trans (congrArg some (by kernel_rfl))
  f276 := Tryz.func44.trans (congrArg some (by kernel_rfl))
  f277 := Tryz.func45.trans (congrArg some (by kernel_rfl))
  t0 := Tryz.underlying0
  a0 := Tryz.isAgg0
  z0 := Tryz.sizeOf0
  v0 := Tryz.zeroValue0
  t3 := Tryz.underlying3
  a3 := Tryz.isAgg3
  z3 := Tryz.sizeOf3
  v3 := Tryz.zeroValue3
  t4 := Tryz.underlying4
  a4 := Tryz.isAgg4
  z4 := Tryz.sizeOf4
  v4 := Tryz.zeroValue4
  t9 := Tryz.underlying9
  a9 := Tryz.isAgg9
  z9 := Tryz.sizeOf9
  v9 := Tryz.zeroValue9
  t20 := Tryz.underlying20
  a20 := Tryz.isAgg20
  z20 := Tryz.sizeOf20
  v20 := Tryz.zeroValue20
  t31 := Tryz.underlying50
  a31 := Tryz.isAgg50
  z31 := Tryz.sizeOf50
  v31 := Tryz.zeroValue50
  t37 := Tryz.underlying82
  a37 := Tryz.isAgg82
  z37 := Tryz.sizeOf82
  v37 := Tryz.zeroValue82
  t70 := Tryz.underlying83
  a70 := Tryz.isAgg83
  z70 := Tryz.sizeOf83
  v70 := Tryz.zeroValue83
  t72 := Tryz.underlying85
  a72 := Tryz.isAgg85
  z72 := Tryz.sizeOf85
  v72 := Tryz.zeroValue85
  t75 := Tryz.underlying52
  a75 := Tryz.isAgg52
  z75 := Tryz.sizeOf52
  v75 := Tryz.zeroValue52
  t76 := Tryz.underlying87
  a76 := Tryz.isAgg87
  z76 := Tryz.sizeOf87
  v76 := Tryz.zeroValue87
  t127 := Tryz.underlying92
  a127 := Tryz.isAgg92
  z127 := Tryz.sizeOf92
  v127 := Tryz.zeroValue92
  t164 := Tryz.underlying115
  a164 := Tryz.isAgg115
  z164 := Tryz.sizeOf115
  v164 := Tryz.zeroValue115 }
theorem Tryz.Builder_Extra_156 : Builder.Extra Tryz.prog Tryz.lays156_ren := {
  sizeBuilder := by kernel_rfl
  liesBuilder := by kernel_rfl
  t5 := Tryz.underlying5
  a5 := Tryz.isAgg5
  z5 := Tryz.sizeOf5
  v5 := Tryz.zeroValue5
  infoByte := by kernel_rfl
  cellsByte := by kernel_rfl
  sizeByte := by kernel_rfl
  neB5 := by decide }
open Go.RowKit in
/-- strings.Join: "Join concatenates the elements of its first argument to create a single string. The separator string sep is placed between elements in the resulting string.": HOWEVER MANY ELEMENTS. Below the heap's end the world is as it was. (LAID: no walk: one application.) -/
theorem Tryz.strings_Join (bk o c : Nat) (xs : List ByteArray) (sep : ByteArray) (w : World) (hcells : ∀ (j : Nat) x, xs[j]? = some x → w.cell? ⟨bk, o + j, none⟩ = some (.string x)) (hbk : bk < w.heap.size) (hN : xs.length ≤ 140737488355328) (hcap : xs.length ≤ c) (hlen : (Lib.join (xs.map (·.data.toList)) sep.data.toList).length ≤ 140737488355328) :
    Calls Tryz.prog 27 #[.slice (some ⟨bk, o, none⟩) xs.length c, .string sep] w fun e w' => e = .returned (.string ⟨(Lib.join (xs.map (·.data.toList)) sep.data.toList).toArray⟩) ∧ Below w.heap.size w w' := Any.strings_Join Tryz.lays156 Tryz.Builder_Extra_156 bk o c xs sep w hcells hbk hN hcap hlen
def Tryz.laysM171_ren : Go.Shelf.Ren := ⟨fun | 171 => 92 | 243 => 93 | 246 => 94 | 283 => 95 | 284 => 96 | 285 => 97 | 286 => 98 | 129 => 100 | 317 => 99 | 318 => 101 | 319 => 102 | 320 => 103 | 337 => 104 | 338 => 105 | n => n, fun | 3 => 3 | 9 => 9 | 2 => 2 | 4 => 4 | 171 => 193 | 0 => 0 | 53 => 154 | 37 => 82 | 5 => 5 | 173 => 196 | 212 => 200 | 51 => 162 | 20 => 20 | 213 => 201 | 46 => 150 | 232 => 205 | 233 => 206 | n => n, fun | 17 => 9 | 18 => 10 | 19 => 11 | n => n⟩
theorem Tryz.laysM171 : Go.Proofs.LaysM.n171 Tryz.prog Tryz.laysM171_ren := {
  mixed := by kernel_rfl
  f129 := Tryz.func100.trans (congrArg some (by kernel_rfl))
  f171 := Tryz.func92.trans (congrArg some (by kernel_rfl))
  f243 := Tryz.func93.trans (congrArg some (by kernel_rfl))
  f246 := Tryz.func94.trans (congrArg some (by kernel_rfl))
  f283 := Tryz.func95.trans (congrArg some (by kernel_rfl))
  f284 := Tryz.func96.trans (congrArg some (by kernel_rfl))
  f285 := Tryz.func97.trans (congrArg some (by kernel_rfl))
  f286 := Tryz.func98.trans (congrArg some (by kernel_rfl))
  f317 := Tryz.func99.trans (congrArg some (by kernel_rfl))
  f318 := Tryz.func101.trans (congrArg some (by kernel_rfl))
  f319 := Tryz.func102.trans (congrArg some (by kernel_rfl))
  f320 := Tryz.func103.trans (congrArg some (by kernel_rfl))
  f337 := Tryz.func104.trans (congrArg some (by kernel_rfl))
  f338 := Tryz.func105.trans (congrArg some (by kernel_rfl))
  t0 := Tryz.underlying0
  a0 := Tryz.isAgg0
  z0 := Tryz.sizeOf0
  v0 := Tryz.zeroValue0
  t2 := Tryz.underlying2
  a2 := Tryz.isAgg2
  z2 := Tryz.sizeOf2
  v2 := Tryz.zeroValue2
  t3 := Tryz.underlying3
  a3 := Tryz.isAgg3
  z3 := Tryz.sizeOf3
  v3 := Tryz.zeroValue3
  t4 := Tryz.underlying4
  a4 := Tryz.isAgg4
  z4 := Tryz.sizeOf4
  v4 := Tryz.zeroValue4
  t5 := Tryz.underlying5
  a5 := Tryz.isAgg5
  z5 := Tryz.sizeOf5
  v5 := Tryz.zeroValue5
  t9 := Tryz.underlying9
  a9 := Tryz.isAgg9
  z9 := Tryz.sizeOf9
  v9 := Tryz.zeroValue9
  t20 := Tryz.underlying20
  a20 := Tryz.isAgg20
  z20 := Tryz.sizeOf20
  v20 := Tryz.zeroValue20
  t37 := Tryz.underlying82
  a37 := Tryz.isAgg82
  z37 := Tryz.sizeOf82
  v37 := Tryz.zeroValue82
  t46 := Tryz.underlying150
  a46 := Tryz.isAgg150
  z46 := Tryz.sizeOf150
  v46 := Tryz.zeroValue150
  t51 := Tryz.underlying162
  a51 := Tryz.isAgg162
  z51 := Tryz.sizeOf162
  v51 := Tryz.zeroValue162
  t53 := Tryz.underlying154
  a53 := Tryz.isAgg154
  z53 := Tryz.sizeOf154
  v53 := Tryz.zeroValue154
  t171 := Tryz.underlying193
  a171 := Tryz.isAgg193
  z171 := Tryz.sizeOf193
  v171 := Tryz.zeroValue193
  t173 := Tryz.underlying196
  a173 := Tryz.isAgg196
  z173 := Tryz.sizeOf196
  v173 := Tryz.zeroValue196
  t212 := Tryz.underlying200
  a212 := Tryz.isAgg200
  z212 := Tryz.sizeOf200
  v212 := Tryz.zeroValue200
  t213 := Tryz.underlying201
  a213 := Tryz.isAgg201
  z213 := Tryz.sizeOf201
  t232 := Tryz.underlying205
  a232 := Tryz.isAgg205
  z232 := Tryz.sizeOf205
  v232 := Tryz.zeroValue205
  t233 := Tryz.underlying206
  a233 := Tryz.isAgg206
  z233 := Tryz.sizeOf206
  v233 := Tryz.zeroValue206
  g17 := by kernel_rfl
  g18 := by kernel_rfl
  g19 := by kernel_rfl
  i0 := by kernel_rfl
  i2 := by kernel_rfl
  i3 := by kernel_rfl
  i4 := by kernel_rfl
  i5 := by kernel_rfl
  i9 := by kernel_rfl
  i20 := by kernel_rfl
  i37 := by kernel_rfl
  i46 := by kernel_rfl
  i51 := by kernel_rfl
  i53 := by kernel_rfl
  i171 := by kernel_rfl
  i173 := by kernel_rfl
  i212 := by kernel_rfl
  i232 := by kernel_rfl
  i233 := by kernel_rfl
  m17 := by kernel_rfl
  m18 := by kernel_rfl
  m19 := by kernel_rfl }
open Go.RowKit Go.Sort Go.Lib in
/-- strconv.Itoa: "Itoa is equivalent to FormatInt(int64(i), 10).": i's DECIMAL NUMERAL ('Lib.itoa': a '-' where i is negative, then the digits), FOR EVERY int. The world behind the call: the world before it, new blocks behind the heap (the library's 'var a [24]byte'), draws. (LAID: no walk: one application.) -/
theorem Tryz.strconv_Itoa (n : Int) (h0 : -9223372036854775808 ≤ n) (h1 : n ≤ 9223372036854775807) (w : World) (htab : Lib.TabIs Tryz.prog w "internal/strconv.uint64pow10" .u64 Lib.pow10Tab) :
    Calls Tryz.prog 92 #[.int .i64 n] w fun e w' => e = .returned (.string ⟨(Lib.itoa n).toArray⟩) ∧ ∃ k os, w' = grow (w.drewN k) os := Any.strconv_Itoa Tryz.laysM171 n h0 h1 w htab
end Go.Proofs
