/-
  DERIVED: THE SHELF's CONTRACTS AT THIS DUMP, IN PLAIN WORDS (tools/lay-plain.mjs out of 'TryzShMore.lean', which tools/lay-shelf.mjs wrote): THE SAME DECLARATIONS UNDER THE SAME NAMES: 'import', 'namespace', 'open', 'def', 'theorem' AND NOTHING ELSE: no command of the shelf's: FOR A HAND-IN. Each laying: the table of numbers ('.._ren') and one theorem, a field a fact of the dump's own or the kernel's comparison; each contract: ONE APPLICATION.
-/
import Derived.Shelf.Strconv.Itoa3
import Derived.Shelf.Strings.OnBuilder
import Derived.Shelf.Strings.Fields
import Derived.Ground.GgsProg
import Derived.Test.YtmcppajgfhmpaaaGreatDoorProg
namespace Go.Proofs
open Go.Shelf
def Tryz.lays171_ren : Go.Shelf.Ren := ⟨fun | 171 => 99 | 243 => 118 | 246 => 129 | 283 => 134 | 284 => 135 | 285 => 136 | 286 => 137 | 129 => 72 | 317 => 141 | 318 => 142 | 319 => 143 | 320 => 144 | 337 => 145 | 338 => 146 | n => n, fun | 3 => 3 | 9 => 9 | 2 => 2 | 4 => 4 | 171 => 193 | 0 => 0 | 53 => 136 | 37 => 109 | 5 => 5 | 173 => 195 | 212 => 200 | 51 => 79 | 20 => 20 | 213 => 201 | 46 => 84 | 232 => 206 | 233 => 207 | n => n, fun | 17 => 9 | 18 => 12 | 19 => 13 | n => n⟩
theorem Tryz.lays171 : Go.Proofs.Lays.n171 Tryz.prog Tryz.lays171_ren := {
  mixed := by kernel_rfl
  f129 := Tryz.func72.trans (congrArg some (by kernel_rfl))
  f171 := Tryz.func99.trans (congrArg some (by kernel_rfl))
  f243 := Tryz.func118.trans (congrArg some (by kernel_rfl))
  f246 := Tryz.func129.trans (congrArg some (by kernel_rfl))
  f283 := Tryz.func134.trans (congrArg some (by kernel_rfl))
  f284 := Tryz.func135.trans (congrArg some (by kernel_rfl))
  f285 := Tryz.func136.trans (congrArg some (by kernel_rfl))
  f286 := Tryz.func137.trans (congrArg some (by kernel_rfl))
  f317 := Tryz.func141.trans (congrArg some (by kernel_rfl))
  f318 := Tryz.func142.trans (congrArg some (by kernel_rfl))
  f319 := Tryz.func143.trans (congrArg some (by kernel_rfl))
  f320 := Tryz.func144.trans (congrArg some (by kernel_rfl))
  f337 := Tryz.func145.trans (congrArg some (by kernel_rfl))
  f338 := Tryz.func146.trans (congrArg some (by kernel_rfl))
  t0 := Tryz.underlying0
  a0 := Tryz.isAgg0
  z0 := Tryz.sizeOf0
  v0 := Tryz.zeroValue0
  t2 := Tryz.underlying2
  a2 := Tryz.isAgg2
  z2 := Tryz.sizeOf2
  v2 := Tryz.zeroValue2
  t3 := Tryz.underlying3
  a3 := Tryz.isAgg3
  z3 := Tryz.sizeOf3
  v3 := Tryz.zeroValue3
  t4 := Tryz.underlying4
  a4 := Tryz.isAgg4
  z4 := Tryz.sizeOf4
  v4 := Tryz.zeroValue4
  t5 := Tryz.underlying5
  a5 := Tryz.isAgg5
  z5 := Tryz.sizeOf5
  v5 := Tryz.zeroValue5
  t9 := Tryz.underlying9
  a9 := Tryz.isAgg9
  z9 := Tryz.sizeOf9
  v9 := Tryz.zeroValue9
  t20 := Tryz.underlying20
  a20 := Tryz.isAgg20
  z20 := Tryz.sizeOf20
  v20 := Tryz.zeroValue20
  t37 := Tryz.underlying109
  a37 := Tryz.isAgg109
  z37 := Tryz.sizeOf109
  v37 := Tryz.zeroValue109
  t46 := Tryz.underlying84
  a46 := Tryz.isAgg84
  z46 := Tryz.sizeOf84
  v46 := Tryz.zeroValue84
  t51 := Tryz.underlying79
  a51 := Tryz.isAgg79
  z51 := Tryz.sizeOf79
  v51 := Tryz.zeroValue79
  t53 := Tryz.underlying136
  a53 := Tryz.isAgg136
  z53 := Tryz.sizeOf136
  v53 := Tryz.zeroValue136
  t171 := Tryz.underlying193
  a171 := Tryz.isAgg193
  z171 := Tryz.sizeOf193
  v171 := Tryz.zeroValue193
  t173 := Tryz.underlying195
  a173 := Tryz.isAgg195
  z173 := Tryz.sizeOf195
  v173 := Tryz.zeroValue195
  t212 := Tryz.underlying200
  a212 := Tryz.isAgg200
  z212 := Tryz.sizeOf200
  v212 := Tryz.zeroValue200
  t213 := Tryz.underlying201
  a213 := Tryz.isAgg201
  z213 := Tryz.sizeOf201
  t232 := Tryz.underlying206
  a232 := Tryz.isAgg206
  z232 := Tryz.sizeOf206
  v232 := Tryz.zeroValue206
  t233 := Tryz.underlying207
  a233 := Tryz.isAgg207
  z233 := Tryz.sizeOf207
  v233 := Tryz.zeroValue207
  g17 := by kernel_rfl
  g18 := by kernel_rfl
  g19 := by kernel_rfl }
open Go.RowKit Go.Sort Go.Lib in
/-- THE ROAD WITHOUT THE TABLE: 0 <= i < 100: NO PREMISE ON THE WORLD, AND THE WORLD IS AS IT WAS: a row that keeps its argument in that range need list no table ('laid = []'). (LAID: no walk: one application.) -/
theorem Tryz.strconv_Itoa_small (i : Nat) (hi : i < 100) (w : World) :
    Calls Tryz.prog 99 #[.int .i64 i] w fun e w' => e = .returned (.string ⟨(Lib.decDigits i).toArray⟩) ∧ w' = w := Any.strconv_Itoa_small Tryz.lays171 i hi w
def Tryz.lays156_ren : Go.Shelf.Ren := ⟨fun | 156 => 39 | 165 => 57 | 166 => 58 | 169 => 59 | 240 => 100 | 241 => 101 | 276 => 119 | 277 => 120 | n => n, fun | 31 => 25 | 9 => 9 | 3 => 3 | 4 => 4 | 0 => 0 | 20 => 20 | 72 => 111 | 76 => 104 | 70 => 108 | 37 => 109 | 75 => 53 | 127 => 153 | 164 => 87 | 5 => 5 | 80 => 113 | n => n, fun | n => n⟩
theorem Tryz.lays156 : Go.Proofs.Lays.n156 Tryz.prog Tryz.lays156_ren := {
  mixed := by kernel_rfl
  f156 := Tryz.func39.trans (congrArg some (by kernel_rfl))
  f165 := Tryz.func57.trans (congrArg some (by kernel_rfl))
  f166 := Tryz.func58.trans (congrArg some (by kernel_rfl))
  f169 := Tryz.func59.trans (congrArg some (by kernel_rfl))
  f240 := Tryz.func100.trans (congrArg some (by kernel_rfl))
  f241 := Tryz.func101.trans (congrArg some (by kernel_rfl))
  f276 := Tryz.func119.trans (congrArg some (by kernel_rfl))
  f277 := Tryz.func120.trans (congrArg some (by kernel_rfl))
  t0 := Tryz.underlying0
  a0 := Tryz.isAgg0
  z0 := Tryz.sizeOf0
  v0 := Tryz.zeroValue0
  t3 := Tryz.underlying3
  a3 := Tryz.isAgg3
  z3 := Tryz.sizeOf3
  v3 := Tryz.zeroValue3
  t4 := Tryz.underlying4
  a4 := Tryz.isAgg4
  z4 := Tryz.sizeOf4
  v4 := Tryz.zeroValue4
  t9 := Tryz.underlying9
  a9 := Tryz.isAgg9
  z9 := Tryz.sizeOf9
  v9 := Tryz.zeroValue9
  t20 := Tryz.underlying20
  a20 := Tryz.isAgg20
  z20 := Tryz.sizeOf20
  v20 := Tryz.zeroValue20
  t31 := Tryz.underlying25
  a31 := Tryz.isAgg25
  z31 := Tryz.sizeOf25
  v31 := Tryz.zeroValue25
  t37 := Tryz.underlying109
  a37 := Tryz.isAgg109
  z37 := Tryz.sizeOf109
  v37 := Tryz.zeroValue109
  t70 := Tryz.underlying108
  a70 := Tryz.isAgg108
  z70 := Tryz.sizeOf108
  v70 := Tryz.zeroValue108
  t72 := Tryz.underlying111
  a72 := Tryz.isAgg111
  z72 := Tryz.sizeOf111
  v72 := Tryz.zeroValue111
  t75 := Tryz.underlying53
  a75 := Tryz.isAgg53
  z75 := Tryz.sizeOf53
  v75 := Tryz.zeroValue53
  t76 := Tryz.underlying104
  a76 := Tryz.isAgg104
  z76 := Tryz.sizeOf104
  v76 := Tryz.zeroValue104
  t127 := Tryz.underlying153
  a127 := Tryz.isAgg153
  z127 := Tryz.sizeOf153
  v127 := Tryz.zeroValue153
  t164 := Tryz.underlying87
  a164 := Tryz.isAgg87
  z164 := Tryz.sizeOf87
  v164 := Tryz.zeroValue87 }
theorem Tryz.Builder_Extra_156 : Builder.Extra Tryz.prog Tryz.lays156_ren := {
  sizeBuilder := by kernel_rfl
  liesBuilder := by kernel_rfl
  t5 := Tryz.underlying5
  a5 := Tryz.isAgg5
  z5 := Tryz.sizeOf5
  v5 := Tryz.zeroValue5
  infoByte := by kernel_rfl
  cellsByte := by kernel_rfl
  sizeByte := by kernel_rfl
  neB5 := by decide }
open Go.RowKit in
/-- strings.Join: "Join concatenates the elements of its first argument to create a single string. The separator string sep is placed between elements in the resulting string.": HOWEVER MANY ELEMENTS. Below the heap's end the world is as it was. (LAID: no walk: one application.) -/
theorem Tryz.strings_Join (bk o c : Nat) (xs : List ByteArray) (sep : ByteArray) (w : World) (hcells : ∀ (j : Nat) x, xs[j]? = some x → w.cell? ⟨bk, o + j, none⟩ = some (.string x)) (hbk : bk < w.heap.size) (hN : xs.length ≤ 140737488355328) (hcap : xs.length ≤ c) (hlen : (Lib.join (xs.map (·.data.toList)) sep.data.toList).length ≤ 140737488355328) :
    Calls Tryz.prog 39 #[.slice (some ⟨bk, o, none⟩) xs.length c, .string sep] w fun e w' => e = .returned (.string ⟨(Lib.join (xs.map (·.data.toList)) sep.data.toList).toArray⟩) ∧ Below w.heap.size w w' := Any.strings_Join Tryz.lays156 Tryz.Builder_Extra_156 bk o c xs sep w hcells hbk hN hcap hlen
open Go.RowKit in
/-- No element: the empty string; the world is as it was. (Whatever the slice's address and capacity: a nil slice too.) (LAID: no walk: one application.) -/
theorem Tryz.strings_Join_none (a : Option Addr) (c : Nat) (sep : ByteArray) (w : World) :
    Calls Tryz.prog 39 #[.slice a 0 c, .string sep] w fun e w' => e = .returned (.string ⟨#[]⟩) ∧ w' = w := Any.strings_Join_none Tryz.lays156 Tryz.Builder_Extra_156 a c sep w
def Tryz.lays157_ren : Go.Shelf.Ren := ⟨fun | 157 => 15 | 229 => 26 | 199 => 27 | 261 => 40 | 311 => 60 | 312 => 61 | n => n, fun | 9 => 9 | 31 => 25 | 3 => 3 | 5 => 5 | 4 => 4 | 119 => 58 | 0 => 0 | 40 => 60 | 152 => 76 | 21 => 21 | 154 => 78 | 51 => 79 | 141 => 81 | 196 => 117 | 193 => 114 | 198 => 120 | 49 => 118 | 194 => 115 | 201 => 123 | 226 => 154 | 46 => 84 | 227 => 155 | n => n, fun | 0 => 0 | 6 => 1 | n => n⟩
theorem Tryz.lays157 : Go.Proofs.Lays.n157 Tryz.prog Tryz.lays157_ren := {
  mixed := by kernel_rfl
  f157 := Tryz.func15.trans (congrArg some (by kernel_rfl))
  f199 := Tryz.func27.trans (congrArg some (by kernel_rfl))
  f229 := Tryz.func26.trans (congrArg some (by kernel_rfl))
  f261 := Tryz.func40.trans (congrArg some (by kernel_rfl))
  f311 := Tryz.func60.trans (congrArg some (by kernel_rfl))
  f312 := Tryz.func61.trans (congrArg some (by kernel_rfl))
  t0 := Tryz.underlying0
  a0 := Tryz.isAgg0
  z0 := Tryz.sizeOf0
  v0 := Tryz.zeroValue0
  t3 := Tryz.underlying3
  a3 := Tryz.isAgg3
  z3 := Tryz.sizeOf3
  v3 := Tryz.zeroValue3
  t4 := Tryz.underlying4
  a4 := Tryz.isAgg4
  z4 := Tryz.sizeOf4
  v4 := Tryz.zeroValue4
  t5 := Tryz.underlying5
  a5 := Tryz.isAgg5
  z5 := Tryz.sizeOf5
  v5 := Tryz.zeroValue5
  t9 := Tryz.underlying9
  a9 := Tryz.isAgg9
  z9 := Tryz.sizeOf9
  v9 := Tryz.zeroValue9
  t21 := Tryz.underlying21
  a21 := Tryz.isAgg21
  z21 := Tryz.sizeOf21
  v21 := Tryz.zeroValue21
  t31 := Tryz.underlying25
  a31 := Tryz.isAgg25
  z31 := Tryz.sizeOf25
  v31 := Tryz.zeroValue25
  t40 := Tryz.underlying60
  a40 := Tryz.isAgg60
  z40 := Tryz.sizeOf60
  v40 := Tryz.zeroValue60
  t46 := Tryz.underlying84
  a46 := Tryz.isAgg84
  z46 := Tryz.sizeOf84
  v46 := Tryz.zeroValue84
  t49 := Tryz.underlying118
  a49 := Tryz.isAgg118
  z49 := Tryz.sizeOf118
  v49 := Tryz.zeroValue118
  t51 := Tryz.underlying79
  a51 := Tryz.isAgg79
  z51 := Tryz.sizeOf79
  v51 := Tryz.zeroValue79
  t119 := Tryz.underlying58
  a119 := Tryz.isAgg58
  z119 := Tryz.sizeOf58
  t141 := Tryz.underlying81
  a141 := Tryz.isAgg81
  z141 := Tryz.sizeOf81
  v141 := Tryz.zeroValue81
  t152 := Tryz.underlying76
  a152 := Tryz.isAgg76
  z152 := Tryz.sizeOf76
  v152 := Tryz.zeroValue76
  t154 := Tryz.underlying78
  a154 := Tryz.isAgg78
  z154 := Tryz.sizeOf78
  v154 := Tryz.zeroValue78
  t193 := Tryz.underlying114
  a193 := Tryz.isAgg114
  z193 := Tryz.sizeOf114
  v193 := Tryz.zeroValue114
  t194 := Tryz.underlying115
  a194 := Tryz.isAgg115
  z194 := Tryz.sizeOf115
  v194 := Tryz.zeroValue115
  t196 := Tryz.underlying117
  a196 := Tryz.isAgg117
  z196 := Tryz.sizeOf117
  v196 := Tryz.zeroValue117
  t198 := Tryz.underlying120
  a198 := Tryz.isAgg120
  z198 := Tryz.sizeOf120
  v198 := Tryz.zeroValue120
  t201 := Tryz.underlying123
  a201 := Tryz.isAgg123
  z201 := Tryz.sizeOf123
  v201 := Tryz.zeroValue123
  t226 := Tryz.underlying154
  a226 := Tryz.isAgg154
  z226 := Tryz.sizeOf154
  v226 := Tryz.zeroValue154
  t227 := Tryz.underlying155
  a227 := Tryz.isAgg155
  z227 := Tryz.sizeOf155
  v227 := Tryz.zeroValue155
  g0 := by kernel_rfl
  g6 := by kernel_rfl }
open Go.RowKit Go.Lib in
/-- strings.Fields, the table by 'Lib.TabIs' (as strings.TrimSpace's contract). 'hg': the table's number, by its name: at a dump 'by kernel_rfl'. (LAID: no walk: one application.) -/
theorem Tryz.strings_Fields (s : ByteArray) (w : World) (hs : s.size < 4294967281) (hascii : ∀ (j : Nat) b, s.data.toList[j]? = some b → b.toNat < 128) (htab : Lib.TabIs Tryz.prog w "strings.asciiSpace" .u8 Lib.asciiSpaceTab) :
    Calls Tryz.prog 15 #[.string s] w fun e w' =>
      e = .returned (.slice (some ⟨w.heap.size, 0, none⟩) (Lib.fields s.data.toList).length (Lib.fields s.data.toList).length) ∧ w' = w.alloc (.cells ((Lib.fields s.data.toList).map fun l => Value.string ⟨l.toArray⟩).toArray 9) := Any.strings_Fields Tryz.lays157 (by kernel_rfl) (by kernel_rfl) s w hs hascii htab
end Go.Proofs
