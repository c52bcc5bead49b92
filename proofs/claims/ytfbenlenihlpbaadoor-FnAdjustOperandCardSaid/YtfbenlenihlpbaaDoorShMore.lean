/-
  DERIVED: THE SHELF's CONTRACTS AT THIS DUMP, IN PLAIN WORDS (tools/lay-plain.mjs out of 'TrydShMore.lean', which tools/lay-shelf.mjs wrote): THE SAME DECLARATIONS UNDER THE SAME NAMES: 'import', 'namespace', 'open', 'def', 'theorem' AND NOTHING ELSE: no command of the shelf's: FOR A HAND-IN. Each laying: the table of numbers ('.._ren') and one theorem, a field a fact of the dump's own or the kernel's comparison; each contract: ONE APPLICATION.
-/
import Derived.Shelf.Strconv.Itoa3
import Derived.Shelf.Strings.OnBuilder
import Derived.Shelf.Strings.Prefix
import Derived.Test.YtfbenlenihlpbaaDoorProg
namespace Go.Proofs
open Go.Shelf
def Tryd.lays171_ren : Go.Shelf.Ren := ⟨fun | 171 => 90 | 243 => 105 | 246 => 116 | 283 => 124 | 284 => 125 | 285 => 126 | 286 => 127 | 129 => 135 | 317 => 134 | 318 => 136 | 319 => 137 | 320 => 138 | 337 => 143 | 338 => 144 | n => n, fun | 3 => 3 | 9 => 9 | 2 => 2 | 4 => 4 | 171 => 166 | 0 => 0 | 53 => 167 | 37 => 65 | 5 => 5 | 173 => 170 | 212 => 183 | 51 => 143 | 20 => 20 | 213 => 184 | 46 => 70 | 232 => 193 | 233 => 194 | n => n, fun | 17 => 8 | 18 => 11 | 19 => 12 | n => n⟩
theorem Tryd.lays171 : Go.Proofs.Lays.n171 Tryd.prog Tryd.lays171_ren := {
  mixed := by kernel_rfl
  f129 := Tryd.func135.trans (congrArg some (by kernel_rfl))
  f171 := Tryd.func90.trans (congrArg some (by kernel_rfl))
  f243 := Tryd.func105.trans (congrArg some (by kernel_rfl))
  f246 := Tryd.func116.trans (congrArg some (by kernel_rfl))
  f283 := Tryd.func124.trans (congrArg some (by kernel_rfl))
  f284 := Tryd.func125.trans (congrArg some (by kernel_rfl))
  f285 := Tryd.func126.trans (congrArg some (by kernel_rfl))
  f286 := Tryd.func127.trans (congrArg some (by kernel_rfl))
  f317 := Tryd.func134.trans (congrArg some (by kernel_rfl))
  f318 := Tryd.func136.trans (congrArg some (by kernel_rfl))
  f319 := Tryd.func137.trans (congrArg some (by kernel_rfl))
  f320 := Tryd.func138.trans (congrArg some (by kernel_rfl))
  f337 := Tryd.func143.trans (congrArg some (by kernel_rfl))
  f338 := Tryd.func144.trans (congrArg some (by kernel_rfl))
  t0 := Tryd.underlying0
  a0 := Tryd.isAgg0
  z0 := Tryd.sizeOf0
  v0 := Tryd.zeroValue0
  t2 := Tryd.underlying2
  a2 := Tryd.isAgg2
  z2 := Tryd.sizeOf2
  v2 := Tryd.zeroValue2
  t3 := Tryd.underlying3
  a3 := Tryd.isAgg3
  z3 := Tryd.sizeOf3
  v3 := Tryd.zeroValue3
  t4 := Tryd.underlying4
  a4 := Tryd.isAgg4
  z4 := Tryd.sizeOf4
  v4 := Tryd.zeroValue4
  t5 := Tryd.underlying5
  a5 := Tryd.isAgg5
  z5 := Tryd.sizeOf5
  v5 := Tryd.zeroValue5
  t9 := Tryd.underlying9
  a9 := Tryd.isAgg9
  z9 := Tryd.sizeOf9
  v9 := Tryd.zeroValue9
  t20 := Tryd.underlying20
  a20 := Tryd.isAgg20
  z20 := Tryd.sizeOf20
  v20 := Tryd.zeroValue20
  t37 := Tryd.underlying65
  a37 := Tryd.isAgg65
  z37 := Tryd.sizeOf65
  v37 := Tryd.zeroValue65
  t46 := Tryd.underlying70
  a46 := Tryd.isAgg70
  z46 := Tryd.sizeOf70
  v46 := Tryd.zeroValue70
  t51 := Tryd.underlying143
  a51 := Tryd.isAgg143
  z51 := Tryd.sizeOf143
  v51 := Tryd.zeroValue143
  t53 := Tryd.underlying167
  a53 := Tryd.isAgg167
  z53 := Tryd.sizeOf167
  v53 := Tryd.zeroValue167
  t171 := Tryd.underlying166
  a171 := Tryd.isAgg166
  z171 := Tryd.sizeOf166
  v171 := Tryd.zeroValue166
  t173 := Tryd.underlying170
  a173 := Tryd.isAgg170
  z173 := Tryd.sizeOf170
  v173 := Tryd.zeroValue170
  t212 := Tryd.underlying183
  a212 := Tryd.isAgg183
  z212 := Tryd.sizeOf183
  v212 := Tryd.zeroValue183
  t213 := Tryd.underlying184
  a213 := Tryd.isAgg184
  z213 := Tryd.sizeOf184
  t232 := Tryd.underlying193
  a232 := Tryd.isAgg193
  z232 := Tryd.sizeOf193
  v232 := Tryd.zeroValue193
  t233 := Tryd.underlying194
  a233 := Tryd.isAgg194
  z233 := Tryd.sizeOf194
  v233 := Tryd.zeroValue194
  g17 := by kernel_rfl
  g18 := by kernel_rfl
  g19 := by kernel_rfl }
open Go.RowKit Go.Sort Go.Lib in
/-- THE ROAD WITHOUT THE TABLE: 0 <= i < 100: NO PREMISE ON THE WORLD, AND THE WORLD IS AS IT WAS: a row that keeps its argument in that range need list no table ('laid = []'). (LAID: no walk: one application.) -/
theorem Tryd.strconv_Itoa_small (i : Nat) (hi : i < 100) (w : World) :
    Calls Tryd.prog 90 #[.int .i64 i] w fun e w' => e = .returned (.string ⟨(Lib.decDigits i).toArray⟩) ∧ w' = w := Any.strconv_Itoa_small Tryd.lays171 i hi w
def Tryd.lays156_ren : Go.Shelf.Ren := ⟨fun | 156 => 76 | 165 => 91 | 166 => 92 | 169 => 93 | 240 => 106 | 241 => 107 | 276 => 117 | 277 => 118 | n => n, fun | 31 => 39 | 9 => 9 | 3 => 3 | 4 => 4 | 0 => 0 | 20 => 20 | 72 => 133 | 76 => 109 | 70 => 131 | 37 => 65 | 75 => 74 | 127 => 141 | 164 => 151 | 5 => 5 | 80 => 135 | n => n, fun | n => n⟩
theorem Tryd.lays156 : Go.Proofs.Lays.n156 Tryd.prog Tryd.lays156_ren := {
  mixed := by kernel_rfl
  f156 := Tryd.func76.trans (congrArg some (by kernel_rfl))
  f165 := Tryd.func91.trans (congrArg some (by kernel_rfl))
  f166 := Tryd.func92.trans (congrArg some (by kernel_rfl))
  f169 := Tryd.func93.trans (congrArg some (by kernel_rfl))
  f240 := Tryd.func106.trans (congrArg some (by kernel_rfl))
  f241 := Tryd.func107.trans (congrArg some (by kernel_rfl))
  f276 := Tryd.func117.trans (congrArg some (by kernel_rfl))
  f277 := Tryd.func118.trans (congrArg some (by kernel_rfl))
  t0 := Tryd.underlying0
  a0 := Tryd.isAgg0
  z0 := Tryd.sizeOf0
  v0 := Tryd.zeroValue0
  t3 := Tryd.underlying3
  a3 := Tryd.isAgg3
  z3 := Tryd.sizeOf3
  v3 := Tryd.zeroValue3
  t4 := Tryd.underlying4
  a4 := Tryd.isAgg4
  z4 := Tryd.sizeOf4
  v4 := Tryd.zeroValue4
  t9 := Tryd.underlying9
  a9 := Tryd.isAgg9
  z9 := Tryd.sizeOf9
  v9 := Tryd.zeroValue9
  t20 := Tryd.underlying20
  a20 := Tryd.isAgg20
  z20 := Tryd.sizeOf20
  v20 := Tryd.zeroValue20
  t31 := Tryd.underlying39
  a31 := Tryd.isAgg39
  z31 := Tryd.sizeOf39
  v31 := Tryd.zeroValue39
  t37 := Tryd.underlying65
  a37 := Tryd.isAgg65
  z37 := Tryd.sizeOf65
  v37 := Tryd.zeroValue65
  t70 := Tryd.underlying131
  a70 := Tryd.isAgg131
  z70 := Tryd.sizeOf131
  v70 := Tryd.zeroValue131
  t72 := Tryd.underlying133
  a72 := Tryd.isAgg133
  z72 := Tryd.sizeOf133
  v72 := Tryd.zeroValue133
  t75 := Tryd.underlying74
  a75 := Tryd.isAgg74
  z75 := Tryd.sizeOf74
  v75 := Tryd.zeroValue74
  t76 := Tryd.underlying109
  a76 := Tryd.isAgg109
  z76 := Tryd.sizeOf109
  v76 := Tryd.zeroValue109
  t127 := Tryd.underlying141
  a127 := Tryd.isAgg141
  z127 := Tryd.sizeOf141
  v127 := Tryd.zeroValue141
  t164 := Tryd.underlying151
  a164 := Tryd.isAgg151
  z164 := Tryd.sizeOf151
  v164 := Tryd.zeroValue151 }
theorem Tryd.Builder_Extra_156 : Builder.Extra Tryd.prog Tryd.lays156_ren := {
  sizeBuilder := by kernel_rfl
  liesBuilder := by kernel_rfl
  t5 := Tryd.underlying5
  a5 := Tryd.isAgg5
  z5 := Tryd.sizeOf5
  v5 := Tryd.zeroValue5
  infoByte := by kernel_rfl
  cellsByte := by kernel_rfl
  sizeByte := by kernel_rfl
  neB5 := by decide }
open Go.RowKit in
/-- strings.Join: "Join concatenates the elements of its first argument to create a single string. The separator string sep is placed between elements in the resulting string.": HOWEVER MANY ELEMENTS. Below the heap's end the world is as it was. (LAID: no walk: one application.) -/
theorem Tryd.strings_Join (bk o c : Nat) (xs : List ByteArray) (sep : ByteArray) (w : World) (hcells : ∀ (j : Nat) x, xs[j]? = some x → w.cell? ⟨bk, o + j, none⟩ = some (.string x)) (hbk : bk < w.heap.size) (hN : xs.length ≤ 140737488355328) (hcap : xs.length ≤ c) (hlen : (Lib.join (xs.map (·.data.toList)) sep.data.toList).length ≤ 140737488355328) :
    Calls Tryd.prog 76 #[.slice (some ⟨bk, o, none⟩) xs.length c, .string sep] w fun e w' => e = .returned (.string ⟨(Lib.join (xs.map (·.data.toList)) sep.data.toList).toArray⟩) ∧ Below w.heap.size w w' := Any.strings_Join Tryd.lays156 Tryd.Builder_Extra_156 bk o c xs sep w hcells hbk hN hcap hlen
open Go.RowKit in
/-- No element: the empty string; the world is as it was. (Whatever the slice's address and capacity: a nil slice too.) (LAID: no walk: one application.) -/
theorem Tryd.strings_Join_none (a : Option Addr) (c : Nat) (sep : ByteArray) (w : World) :
    Calls Tryd.prog 76 #[.slice a 0 c, .string sep] w fun e w' => e = .returned (.string ⟨#[]⟩) ∧ w' = w := Any.strings_Join_none Tryd.lays156 Tryd.Builder_Extra_156 a c sep w
def Tryd.lays101_ren : Go.Shelf.Ren := ⟨fun | 101 => 83 | 208 => 99 | 206 => 111 | n => n, fun | 9 => 9 | 4 => 4 | 3 => 3 | n => n, fun | n => n⟩
theorem Tryd.lays101 : Go.Proofs.Lays.n101 Tryd.prog Tryd.lays101_ren := {
  mixed := by kernel_rfl
  f101 := Tryd.func83.trans (congrArg some (by kernel_rfl))
  f206 := Tryd.func111.trans (congrArg some (by kernel_rfl))
  f208 := Tryd.func99.trans (congrArg some (by kernel_rfl))
  t3 := Tryd.underlying3
  a3 := Tryd.isAgg3
  z3 := Tryd.sizeOf3
  v3 := Tryd.zeroValue3
  t4 := Tryd.underlying4
  a4 := Tryd.isAgg4
  z4 := Tryd.sizeOf4
  v4 := Tryd.zeroValue4
  t9 := Tryd.underlying9
  a9 := Tryd.isAgg9
  z9 := Tryd.sizeOf9
  v9 := Tryd.zeroValue9 }
open Go.RowKit Go.Lib in
/-- strings.TrimPrefix: "TrimPrefix returns s without the provided leading prefix string. If s doesn't start with prefix, s is returned unchanged.": IT RETURNS 'Lib.trimPrefix s prefix'; the world is as it was. (LAID: no walk: one application.) -/
theorem Tryd.strings_TrimPrefix (s p : ByteArray) (w : World) :
    Calls Tryd.prog 83 #[.string s, .string p] w fun e w' => e = .returned (.string ⟨(Lib.trimPrefix s.data.toList p.data.toList).toArray⟩) ∧ w' = w := Any.strings_TrimPrefix Tryd.lays101 s p w
def Tryd.lays102_ren : Go.Shelf.Ren := ⟨fun | 102 => 84 | 209 => 100 | 207 => 112 | n => n, fun | 9 => 9 | 4 => 4 | 3 => 3 | n => n, fun | n => n⟩
theorem Tryd.lays102 : Go.Proofs.Lays.n102 Tryd.prog Tryd.lays102_ren := {
  mixed := by kernel_rfl
  f102 := Tryd.func84.trans (congrArg some (by kernel_rfl))
  f207 := Tryd.func112.trans (congrArg some (by kernel_rfl))
  f209 := Tryd.func100.trans (congrArg some (by kernel_rfl))
  t3 := Tryd.underlying3
  a3 := Tryd.isAgg3
  z3 := Tryd.sizeOf3
  v3 := Tryd.zeroValue3
  t4 := Tryd.underlying4
  a4 := Tryd.isAgg4
  z4 := Tryd.sizeOf4
  v4 := Tryd.zeroValue4
  t9 := Tryd.underlying9
  a9 := Tryd.isAgg9
  z9 := Tryd.sizeOf9
  v9 := Tryd.zeroValue9 }
open Go.RowKit Go.Lib in
/-- strings.TrimSuffix: "TrimSuffix returns s without the provided trailing suffix string. If s doesn't end with suffix, s is returned unchanged.": IT RETURNS 'Lib.trimSuffix s suffix'; the world is as it was. (LAID: no walk: one application.) -/
theorem Tryd.strings_TrimSuffix (s p : ByteArray) (w : World) (hs : s.size ≤ 9223372036854775807) :
    Calls Tryd.prog 84 #[.string s, .string p] w fun e w' => e = .returned (.string ⟨(Lib.trimSuffix s.data.toList p.data.toList).toArray⟩) ∧ w' = w := Any.strings_TrimSuffix Tryd.lays102 s p w hs
end Go.Proofs
