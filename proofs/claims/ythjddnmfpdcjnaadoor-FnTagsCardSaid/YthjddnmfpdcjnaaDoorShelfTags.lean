/- Contracts of the library, laid at this program by the shelf's tool in plain words: strings_IndexByte, strings_EqualFold, strings_ToLower_ascii, strings_ToLower_any. Each with the conditions that its theorem names. -/
import Derived.Shelf.Strings.Builder1
import Derived.Shelf.Strings.Builder2
import Derived.Shelf.Strings.OnBuilder
import Derived.Shelf.Small.Utf8
import Derived.Shelf.Small.Strs
import Derived.Shelf.Strings.BuilderF
import Derived.Shelf.Strings.BuilderK
import Derived.Shelf.Strings.BuilderRune
import Derived.Shelf.Strings.Search1
import Derived.Shelf.Strings.Prefix
import Derived.Shelf.Strings.Fold
import Derived.Shelf.Unicode.Latin
import Derived.Shelf.Unicode.DecodeSlow
import Derived.Shelf.Unicode.DecodeAny
import Derived.Shelf.Unicode.CaseLookup
import Derived.Shelf.Unicode.CaseConvert
import Derived.Shelf.Unicode.CaseTo
import Derived.Shelf.Unicode.CaseLaid
import Derived.Shelf.Strings.MapAny
import Derived.Shelf.Strings.CaseAny
import Derived.Test.YthjddnmfpdcjnaaDoorProg
namespace Go.Proofs
open Go.Shelf
def Tryd.lays159_ren : Go.Shelf.Ren := ⟨fun | 159 => 41 | 165 => 54 | 166 => 55 | 167 => 56 | 169 => 57 | 230 => 58 | 204 => 59 | 240 => 63 | 241 => 64 | 197 => 60 | 118 => 65 | 168 => 66 | 270 => 67 | 262 => 68 | 276 => 72 | 277 => 73 | 260 => 69 | 242 => 74 | 313 => 75 | 278 => 76 | 274 => 70 | 275 => 71 | n => n, fun | 9 => 9 | 4 => 4 | 3 => 3 | 5 => 5 | 72 => 72 | 0 => 0 | 76 => 76 | 75 => 75 | 107 => 81 | 70 => 70 | 20 => 20 | 37 => 58 | 127 => 84 | 21 => 21 | 105 => 82 | 164 => 98 | 162 => 96 | 203 => 102 | 119 => 104 | 46 => 91 | 139 => 107 | 138 => 106 | 51 => 108 | 160 => 94 | 208 => 112 | 206 => 110 | 80 => 79 | n => n, fun | 13 => 2 | 3 => 4 | 4 => 5 | n => n⟩
theorem Tryd.lays159 : Go.Proofs.Lays.n159 Tryd.prog Tryd.lays159_ren := {
  mixed := by kernel_rfl
  f118 := Tryd.func65.trans (congrArg some (by kernel_rfl))
  f159 := Tryd.func41.trans (congrArg some (by kernel_rfl))
  f165 := Tryd.func54.trans (congrArg some (by kernel_rfl))
  f166 := Tryd.func55.trans (congrArg some (by kernel_rfl))
  f167 := Tryd.func56.trans (congrArg some (by kernel_rfl))
  f168 := Tryd.func66.trans (congrArg some (by kernel_rfl))
  f169 := Tryd.func57.trans (congrArg some (by kernel_rfl))
  f197 := Tryd.func60.trans (congrArg some (by kernel_rfl))
  f204 := Tryd.func59.trans (congrArg some (by kernel_rfl))
  f230 := Tryd.func58.trans (congrArg some (by kernel_rfl))
  f240 := Tryd.func63.trans (congrArg some (by kernel_rfl))
  f241 := Tryd.func64.trans (congrArg some (by kernel_rfl))
  f242 := Tryd.func74.trans (congrArg some (by kernel_rfl))
  f260 := Tryd.func69.trans (congrArg some (by kernel_rfl))
  f262 := Tryd.func68.trans (congrArg some (by kernel_rfl))
  f270 := Tryd.func67.trans (congrArg some (by kernel_rfl))
  f274 := Tryd.func70.trans (congrArg some (by kernel_rfl))
  f275 := Tryd.func71.trans (congrArg some (by kernel_rfl))
  f276 := Tryd.func72.trans (congrArg some (by kernel_rfl))
  f277 := Tryd.func73.trans (congrArg some (by kernel_rfl))
  f278 := Tryd.func76.trans (congrArg some (by kernel_rfl))
  f313 := Tryd.func75.trans (congrArg some (by kernel_rfl))
  t0 := Tryd.underlying0
  a0 := Tryd.isAgg0
  z0 := Tryd.sizeOf0
  v0 := Tryd.zeroValue0
  t3 := Tryd.underlying3
  a3 := Tryd.isAgg3
  z3 := Tryd.sizeOf3
  v3 := Tryd.zeroValue3
  t4 := Tryd.underlying4
  a4 := Tryd.isAgg4
  z4 := Tryd.sizeOf4
  v4 := Tryd.zeroValue4
  t5 := Tryd.underlying5
  a5 := Tryd.isAgg5
  z5 := Tryd.sizeOf5
  v5 := Tryd.zeroValue5
  t9 := Tryd.underlying9
  a9 := Tryd.isAgg9
  z9 := Tryd.sizeOf9
  v9 := Tryd.zeroValue9
  t20 := Tryd.underlying20
  a20 := Tryd.isAgg20
  z20 := Tryd.sizeOf20
  v20 := Tryd.zeroValue20
  t21 := Tryd.underlying21
  a21 := Tryd.isAgg21
  z21 := Tryd.sizeOf21
  v21 := Tryd.zeroValue21
  t37 := Tryd.underlying58
  a37 := Tryd.isAgg58
  z37 := Tryd.sizeOf58
  v37 := Tryd.zeroValue58
  t46 := Tryd.underlying91
  a46 := Tryd.isAgg91
  z46 := Tryd.sizeOf91
  v46 := Tryd.zeroValue91
  t51 := Tryd.underlying108
  a51 := Tryd.isAgg108
  z51 := Tryd.sizeOf108
  v51 := Tryd.zeroValue108
  t70 := Tryd.underlying70
  a70 := Tryd.isAgg70
  z70 := Tryd.sizeOf70
  v70 := Tryd.zeroValue70
  t72 := Tryd.underlying72
  a72 := Tryd.isAgg72
  z72 := Tryd.sizeOf72
  v72 := Tryd.zeroValue72
  t75 := Tryd.underlying75
  a75 := Tryd.isAgg75
  z75 := Tryd.sizeOf75
  v75 := Tryd.zeroValue75
  t76 := Tryd.underlying76
  a76 := Tryd.isAgg76
  z76 := Tryd.sizeOf76
  v76 := Tryd.zeroValue76
  t105 := Tryd.underlying82
  a105 := Tryd.isAgg82
  z105 := Tryd.sizeOf82
  v105 := Tryd.zeroValue82
  t107 := Tryd.underlying81
  a107 := Tryd.isAgg81
  z107 := Tryd.sizeOf81
  v107 := Tryd.zeroValue81
  t119 := Tryd.underlying104
  a119 := Tryd.isAgg104
  z119 := Tryd.sizeOf104
  t127 := Tryd.underlying84
  a127 := Tryd.isAgg84
  z127 := Tryd.sizeOf84
  v127 := Tryd.zeroValue84
  t138 := Tryd.underlying106
  a138 := Tryd.isAgg106
  z138 := Tryd.sizeOf106
  v138 := Tryd.zeroValue106
  t139 := Tryd.underlying107
  a139 := Tryd.isAgg107
  z139 := Tryd.sizeOf107
  v139 := Tryd.zeroValue107
  t160 := Tryd.underlying94
  a160 := Tryd.isAgg94
  z160 := Tryd.sizeOf94
  v160 := Tryd.zeroValue94
  t162 := Tryd.underlying96
  a162 := Tryd.isAgg96
  z162 := Tryd.sizeOf96
  v162 := Tryd.zeroValue96
  t164 := Tryd.underlying98
  a164 := Tryd.isAgg98
  z164 := Tryd.sizeOf98
  v164 := Tryd.zeroValue98
  t203 := Tryd.underlying102
  a203 := Tryd.isAgg102
  z203 := Tryd.sizeOf102
  v203 := Tryd.zeroValue102
  t206 := Tryd.underlying110
  a206 := Tryd.isAgg110
  z206 := Tryd.sizeOf110
  v206 := Tryd.zeroValue110
  t208 := Tryd.underlying112
  a208 := Tryd.isAgg112
  z208 := Tryd.sizeOf112
  v208 := Tryd.zeroValue112
  g3 := by kernel_rfl
  g4 := by kernel_rfl
  g13 := by kernel_rfl }
theorem Tryd.Builder_Extra_159 : Builder.Extra Tryd.prog Tryd.lays159_ren := {
  sizeBuilder := by kernel_rfl
  liesBuilder := by kernel_rfl
  t5 := Tryd.underlying5
  a5 := Tryd.isAgg5
  z5 := Tryd.sizeOf5
  v5 := Tryd.zeroValue5
  infoByte := by kernel_rfl
  cellsByte := by kernel_rfl
  sizeByte := by kernel_rfl
  neB5 := by decide }
open Go.RowKit in
/-- strings.ToLower: "ToLower returns s with all Unicode letters mapped to their lower case.": ON ASCII TEXT OF AT MOST 2^47 BYTES. Below the heap's end the world is as it was: where a letter turns, the call makes a builder and its buffer. (LAID: no walk: one application.) -/
theorem Tryd.strings_ToLower_ascii (s : ByteArray) (w : World) (hs : s.size ≤ 140737488355328) (hascii : ∀ (j : Nat) (b : UInt8), s.data.toList[j]? = some b → b.toNat < 128) :
    Calls Tryd.prog 41 #[.string s] w fun e w' => e = .returned (.string ⟨(Lib.toLowerA s.data.toList).toArray⟩) ∧ Below w.heap.size w w' := Any.strings_ToLower_ascii Tryd.lays159 Tryd.Builder_Extra_159 s w hs hascii
def Tryd.lays137_ren : Go.Shelf.Ren := ⟨fun | 137 => 36 | 217 => 51 | 266 => 62 | n => n, fun | 9 => 9 | 5 => 5 | 3 => 3 | n => n, fun | n => n⟩
theorem Tryd.lays137 : Go.Proofs.Lays.n137 Tryd.prog Tryd.lays137_ren := {
  mixed := by kernel_rfl
  f137 := Tryd.func36.trans (congrArg some (by kernel_rfl))
  f217 := Tryd.func51.trans (congrArg some (by kernel_rfl))
  f266 := Tryd.func62.trans (congrArg some (by kernel_rfl))
  t3 := Tryd.underlying3
  a3 := Tryd.isAgg3
  z3 := Tryd.sizeOf3
  v3 := Tryd.zeroValue3
  t5 := Tryd.underlying5
  a5 := Tryd.isAgg5
  z5 := Tryd.sizeOf5
  v5 := Tryd.zeroValue5
  t9 := Tryd.underlying9
  a9 := Tryd.isAgg9
  z9 := Tryd.sizeOf9
  v9 := Tryd.zeroValue9 }
open Go.RowKit in
/-- strings.IndexByte: "IndexByte returns the index of the first instance of c in s, or -1 if c is not present in s.": IT RETURNS 'Lib.indexByte s c'; the world is as it was. (LAID: no walk: one application.) -/
theorem Tryd.strings_IndexByte (s : ByteArray) (c : Int) (w : World) :
    Calls Tryd.prog 36 #[.string s, .int .u8 c] w fun e w' => e = .returned (.int .i64 (Lib.indexByte s.data.toList c.toNat.toUInt8)) ∧ w' = w := Any.strings_IndexByte Tryd.lays137 s c w
def Tryd.lays164_ren : Go.Shelf.Ren := ⟨fun | 164 => 43 | 197 => 60 | 239 => 61 | 260 => 69 | 274 => 70 | 275 => 71 | n => n, fun | 9 => 9 | 4 => 4 | 3 => 3 | 5 => 5 | 0 => 0 | 21 => 21 | 105 => 82 | 156 => 89 | 49 => 88 | 157 => 90 | 46 => 91 | 159 => 93 | 162 => 96 | 160 => 94 | 119 => 104 | 139 => 107 | 138 => 106 | 208 => 112 | 51 => 108 | 206 => 110 | n => n, fun | 11 => 0 | 12 => 1 | 13 => 2 | 3 => 4 | 4 => 5 | n => n⟩
theorem Tryd.lays164 : Go.Proofs.Lays.n164 Tryd.prog Tryd.lays164_ren := {
  mixed := by kernel_rfl
  f164 := Tryd.func43.trans (congrArg some (by kernel_rfl))
  f197 := Tryd.func60.trans (congrArg some (by kernel_rfl))
  f239 := Tryd.func61.trans (congrArg some (by kernel_rfl))
  f260 := Tryd.func69.trans (congrArg some (by kernel_rfl))
  f274 := Tryd.func70.trans (congrArg some (by kernel_rfl))
  f275 := Tryd.func71.trans (congrArg some (by kernel_rfl))
  t0 := Tryd.underlying0
  a0 := Tryd.isAgg0
  z0 := Tryd.sizeOf0
  v0 := Tryd.zeroValue0
  t3 := Tryd.underlying3
  a3 := Tryd.isAgg3
  z3 := Tryd.sizeOf3
  v3 := Tryd.zeroValue3
  t4 := Tryd.underlying4
  a4 := Tryd.isAgg4
  z4 := Tryd.sizeOf4
  v4 := Tryd.zeroValue4
  t5 := Tryd.underlying5
  a5 := Tryd.isAgg5
  z5 := Tryd.sizeOf5
  v5 := Tryd.zeroValue5
  t9 := Tryd.underlying9
  a9 := Tryd.isAgg9
  z9 := Tryd.sizeOf9
  v9 := Tryd.zeroValue9
  t21 := Tryd.underlying21
  a21 := Tryd.isAgg21
  z21 := Tryd.sizeOf21
  v21 := Tryd.zeroValue21
  t46 := Tryd.underlying91
  a46 := Tryd.isAgg91
  z46 := Tryd.sizeOf91
  v46 := Tryd.zeroValue91
  t49 := Tryd.underlying88
  a49 := Tryd.isAgg88
  z49 := Tryd.sizeOf88
  v49 := Tryd.zeroValue88
  t51 := Tryd.underlying108
  a51 := Tryd.isAgg108
  z51 := Tryd.sizeOf108
  v51 := Tryd.zeroValue108
  t105 := Tryd.underlying82
  a105 := Tryd.isAgg82
  z105 := Tryd.sizeOf82
  v105 := Tryd.zeroValue82
  t119 := Tryd.underlying104
  a119 := Tryd.isAgg104
  z119 := Tryd.sizeOf104
  t138 := Tryd.underlying106
  a138 := Tryd.isAgg106
  z138 := Tryd.sizeOf106
  v138 := Tryd.zeroValue106
  t139 := Tryd.underlying107
  a139 := Tryd.isAgg107
  z139 := Tryd.sizeOf107
  v139 := Tryd.zeroValue107
  t156 := Tryd.underlying89
  a156 := Tryd.isAgg89
  z156 := Tryd.sizeOf89
  t157 := Tryd.underlying90
  a157 := Tryd.isAgg90
  z157 := Tryd.sizeOf90
  v157 := Tryd.zeroValue90
  t159 := Tryd.underlying93
  a159 := Tryd.isAgg93
  z159 := Tryd.sizeOf93
  v159 := Tryd.zeroValue93
  t160 := Tryd.underlying94
  a160 := Tryd.isAgg94
  z160 := Tryd.sizeOf94
  v160 := Tryd.zeroValue94
  t162 := Tryd.underlying96
  a162 := Tryd.isAgg96
  z162 := Tryd.sizeOf96
  v162 := Tryd.zeroValue96
  t206 := Tryd.underlying110
  a206 := Tryd.isAgg110
  z206 := Tryd.sizeOf110
  v206 := Tryd.zeroValue110
  t208 := Tryd.underlying112
  a208 := Tryd.isAgg112
  z208 := Tryd.sizeOf112
  v208 := Tryd.zeroValue112
  g3 := by kernel_rfl
  g4 := by kernel_rfl
  g11 := by kernel_rfl
  g12 := by kernel_rfl
  g13 := by kernel_rfl }
open Go.RowKit Go.Lib in
theorem Tryd.strings_EqualFold (s t : ByteArray) (w : World) (hs : s.size < 4294967281) (has : ∀ (j : Nat) b, s.data.toList[j]? = some b → b.toNat < 128) (hat : ∀ (j : Nat) b, t.data.toList[j]? = some b → b.toNat < 128) :
    Calls Tryd.prog 43 #[.string s, .string t] w fun e w' => e = .returned (.bool (Lib.equalFold s.data.toList t.data.toList)) ∧ w' = w := Any.strings_EqualFold Tryd.lays164 s t w hs has hat
open Go.RowKit Go.Lib in
/-- **strings.ToLower AT EVERY STRING, VALID UTF-8 OR NOT.** (LAID: no walk: one application.) -/
theorem Tryd.strings_ToLower_any (s : ByteArray) (w : World) (hs : s.size < 35184372088832) (hV : CaseVar 2 caseA w) (hT : Lib.Utf8Tabs 4 5 w) :
    Calls Tryd.prog 41 #[.string s] w fun e w' => e = .returned (.string ⟨(Lib.toLowerD s.data.toList).toArray⟩) ∧ Below w.heap.size w w' := Any.strings_ToLower_any Tryd.lays159 Tryd.Builder_Extra_159 s w hs hV hT
end Go.Proofs
