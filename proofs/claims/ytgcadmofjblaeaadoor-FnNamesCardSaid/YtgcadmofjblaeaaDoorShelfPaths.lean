/- Contracts of the library, laid at this program by the shelf's tool in plain words: strings_LastIndex, path_Ext, path_Base, filepath_Ext, filepath_Base, strings_TrimPrefix. Each with the conditions that its theorem names. -/
import Derived.Shelf.Strings.Search1
import Derived.Shelf.Strings.LastIndex
import Derived.Shelf.Strings.LastIndexAll
import Derived.Shelf.Strings.Prefix
import Derived.Ground.PaProg
import Derived.Shelf.Path.Small
import Derived.Shelf.Path.FileSmall
import Derived.Test.YtgcadmofjblaeaaDoorProg
namespace Go.Proofs
open Go.Shelf
def Tryd.lays148_ren : Go.Shelf.Ren := ⟨fun | 148 => 32 | 222 => 34 | 223 => 35 | 269 => 36 | n => n, fun | 9 => 9 | 3 => 3 | 4 => 4 | 5 => 5 | 146 => 42 | 51 => 41 | 46 => 44 | n => n, fun | n => n⟩
theorem Tryd.lays148 : Go.Proofs.Lays.n148 Tryd.prog Tryd.lays148_ren := {
  mixed := by kernel_rfl
  f148 := Tryd.func32.trans (congrArg some (by kernel_rfl))
  f222 := Tryd.func34.trans (congrArg some (by kernel_rfl))
  f223 := Tryd.func35.trans (congrArg some (by kernel_rfl))
  f269 := Tryd.func36.trans (congrArg some (by kernel_rfl))
  t3 := Tryd.underlying3
  a3 := Tryd.isAgg3
  z3 := Tryd.sizeOf3
  v3 := Tryd.zeroValue3
  t4 := Tryd.underlying4
  a4 := Tryd.isAgg4
  z4 := Tryd.sizeOf4
  v4 := Tryd.zeroValue4
  t5 := Tryd.underlying5
  a5 := Tryd.isAgg5
  z5 := Tryd.sizeOf5
  v5 := Tryd.zeroValue5
  t9 := Tryd.underlying9
  a9 := Tryd.isAgg9
  z9 := Tryd.sizeOf9
  v9 := Tryd.zeroValue9
  t46 := Tryd.underlying44
  a46 := Tryd.isAgg44
  z46 := Tryd.sizeOf44
  v46 := Tryd.zeroValue44
  t51 := Tryd.underlying41
  a51 := Tryd.isAgg41
  z51 := Tryd.sizeOf41
  v51 := Tryd.zeroValue41
  t146 := Tryd.underlying42
  a146 := Tryd.isAgg42
  z146 := Tryd.sizeOf42
  v146 := Tryd.zeroValue42 }
open Go.RowKit Go.Lib in
/-- strings.LastIndex: "LastIndex returns the index of the last instance of substr in s, or -1 if substr is not present in s.": AT A substr OF WHATEVER LENGTH. (LAID: no walk: one application.) -/
theorem Tryd.strings_LastIndex (s sub : ByteArray) (hs : s.size < 4611686018427387904) (w : World) :
    Calls Tryd.prog 32 #[.string s, .string sub] w fun e w' => e = .returned (.int .i64 (Lib.lastIndex s.data.toList sub.data.toList)) ∧ w' = w := Any.strings_LastIndex Tryd.lays148 s sub hs w
def Tryd.lays101_ren : Go.Shelf.Ren := ⟨fun | 101 => 29 | 208 => 31 | 206 => 33 | n => n, fun | 9 => 9 | 4 => 4 | 3 => 3 | n => n, fun | n => n⟩
theorem Tryd.lays101 : Go.Proofs.Lays.n101 Tryd.prog Tryd.lays101_ren := {
  mixed := by kernel_rfl
  f101 := Tryd.func29.trans (congrArg some (by kernel_rfl))
  f206 := Tryd.func33.trans (congrArg some (by kernel_rfl))
  f208 := Tryd.func31.trans (congrArg some (by kernel_rfl))
  t3 := Tryd.underlying3
  a3 := Tryd.isAgg3
  z3 := Tryd.sizeOf3
  v3 := Tryd.zeroValue3
  t4 := Tryd.underlying4
  a4 := Tryd.isAgg4
  z4 := Tryd.sizeOf4
  v4 := Tryd.zeroValue4
  t9 := Tryd.underlying9
  a9 := Tryd.isAgg9
  z9 := Tryd.sizeOf9
  v9 := Tryd.zeroValue9 }
open Go.RowKit Go.Lib in
/-- strings.TrimPrefix: "TrimPrefix returns s without the provided leading prefix string. If s doesn't start with prefix, s is returned unchanged.": IT RETURNS 'Lib.trimPrefix s prefix'; the world is as it was. (LAID: no walk: one application.) -/
theorem Tryd.strings_TrimPrefix (s p : ByteArray) (w : World) :
    Calls Tryd.prog 29 #[.string s, .string p] w fun e w' => e = .returned (.string ⟨(Lib.trimPrefix s.data.toList p.data.toList).toArray⟩) ∧ w' = w := Any.strings_TrimPrefix Tryd.lays101 s p w
def Tryd.laysPa26_ren : Go.Shelf.Ren := ⟨fun | 26 => 70 | n => n, fun | 9 => 9 | 3 => 3 | 4 => 4 | 5 => 5 | n => n, fun | n => n⟩
theorem Tryd.laysPa26 : Go.Proofs.Lays.p26 Tryd.prog Tryd.laysPa26_ren := {
  mixed := by kernel_rfl
  f26 := Tryd.func70.trans (congrArg some (by kernel_rfl))
  t3 := Tryd.underlying3
  a3 := Tryd.isAgg3
  z3 := Tryd.sizeOf3
  v3 := Tryd.zeroValue3
  t4 := Tryd.underlying4
  a4 := Tryd.isAgg4
  z4 := Tryd.sizeOf4
  v4 := Tryd.zeroValue4
  t5 := Tryd.underlying5
  a5 := Tryd.isAgg5
  z5 := Tryd.sizeOf5
  v5 := Tryd.zeroValue5
  t9 := Tryd.underlying9
  a9 := Tryd.isAgg9
  z9 := Tryd.sizeOf9
  v9 := Tryd.zeroValue9 }
open Go.RowKit Go.Lib in
/-- path.Ext: "Ext returns the file name extension used by path. The extension is the suffix beginning at the final dot in the final slash-separated element of path; it is empty if there is no dot.": IT RETURNS 'Pa.ext path'; the world is as it was. (LAID: no walk: one application.) -/
theorem Tryd.path_Ext (s : ByteArray) (w : World) (hs : s.size ≤ 9223372036854775807) :
    Calls Tryd.prog 70 #[.string s] w fun e w' => e = .returned (.string ⟨(Pa.ext s.data.toList).toArray⟩) ∧ w' = w := Any.path_Ext Tryd.laysPa26 s w hs
def Tryd.laysPa25_ren : Go.Shelf.Ren := ⟨fun | 25 => 69 | 45 => 34 | n => n, fun | 9 => 9 | 4 => 4 | 3 => 3 | 5 => 5 | n => n, fun | n => n⟩
theorem Tryd.laysPa25 : Go.Proofs.Lays.p25 Tryd.prog Tryd.laysPa25_ren := {
  mixed := by kernel_rfl
  f25 := Tryd.func69.trans (congrArg some (by kernel_rfl))
  f45 := Tryd.func34.trans (congrArg some (by kernel_rfl))
  t3 := Tryd.underlying3
  a3 := Tryd.isAgg3
  z3 := Tryd.sizeOf3
  v3 := Tryd.zeroValue3
  t4 := Tryd.underlying4
  a4 := Tryd.isAgg4
  z4 := Tryd.sizeOf4
  v4 := Tryd.zeroValue4
  t5 := Tryd.underlying5
  a5 := Tryd.isAgg5
  z5 := Tryd.sizeOf5
  v5 := Tryd.zeroValue5
  t9 := Tryd.underlying9
  a9 := Tryd.isAgg9
  z9 := Tryd.sizeOf9
  v9 := Tryd.zeroValue9 }
open Go.RowKit Go.Lib in
/-- path.Base: "Base returns the last element of path. Trailing slashes are removed before extracting the last element. If the path is empty, Base returns ".". If the path consists entirely of slashes, Base returns "/".": IT RETURNS 'Pa.base path'; the world is as it was. (LAID: no walk: one application.) -/
theorem Tryd.path_Base (s : ByteArray) (w : World) (hs : s.size ≤ 9223372036854775807) :
    Calls Tryd.prog 69 #[.string s] w fun e w' => e = .returned (.string ⟨(Pa.base s.data.toList).toArray⟩) ∧ w' = w := Any.path_Base Tryd.laysPa25 s w hs
def Tryd.laysPa33_ren : Go.Shelf.Ren := ⟨fun | 33 => 56 | 50 => 58 | 56 => 59 | n => n, fun | 9 => 9 | 3 => 3 | 4 => 4 | 5 => 5 | n => n, fun | n => n⟩
theorem Tryd.laysPa33 : Go.Proofs.Lays.p33 Tryd.prog Tryd.laysPa33_ren := {
  mixed := by kernel_rfl
  f33 := Tryd.func56.trans (congrArg some (by kernel_rfl))
  f50 := Tryd.func58.trans (congrArg some (by kernel_rfl))
  f56 := Tryd.func59.trans (congrArg some (by kernel_rfl))
  t3 := Tryd.underlying3
  a3 := Tryd.isAgg3
  z3 := Tryd.sizeOf3
  v3 := Tryd.zeroValue3
  t4 := Tryd.underlying4
  a4 := Tryd.isAgg4
  z4 := Tryd.sizeOf4
  v4 := Tryd.zeroValue4
  t5 := Tryd.underlying5
  a5 := Tryd.isAgg5
  z5 := Tryd.sizeOf5
  v5 := Tryd.zeroValue5
  t9 := Tryd.underlying9
  a9 := Tryd.isAgg9
  z9 := Tryd.sizeOf9
  v9 := Tryd.zeroValue9 }
open Go.RowKit Go.Lib in
/-- path/filepath.Ext: "Ext returns the file name extension used by path. The extension is the suffix beginning at the final dot in the final element of path; it is empty if there is no dot.": IT RETURNS 'Pa.ext path'; the world is as it was. (LAID: no walk: one application.) -/
theorem Tryd.filepath_Ext (s : ByteArray) (w : World) (hs : s.size ≤ 9223372036854775807) :
    Calls Tryd.prog 56 #[.string s] w fun e w' => e = .returned (.string ⟨(Pa.ext s.data.toList).toArray⟩) ∧ w' = w := Any.filepath_Ext Tryd.laysPa33 s w hs
def Tryd.laysPa32_ren : Go.Shelf.Ren := ⟨fun | 32 => 55 | 49 => 57 | 56 => 59 | 57 => 60 | 59 => 62 | 60 => 61 | 66 => 63 | 70 => 64 | 73 => 65 | n => n, fun | 9 => 9 | 4 => 4 | 3 => 3 | 5 => 5 | 30 => 62 | 0 => 0 | n => n, fun | n => n⟩
theorem Tryd.laysPa32 : Go.Proofs.Lays.p32 Tryd.prog Tryd.laysPa32_ren := {
  mixed := by kernel_rfl
  f32 := Tryd.func55.trans (congrArg some (by kernel_rfl))
  f49 := Tryd.func57.trans (congrArg some (by kernel_rfl))
  f56 := Tryd.func59.trans (congrArg some (by kernel_rfl))
  f57 := Tryd.func60.trans (congrArg some (by kernel_rfl))
  f59 := Tryd.func62.trans (congrArg some (by kernel_rfl))
  f60 := Tryd.func61.trans (congrArg some (by kernel_rfl))
  f66 := Tryd.func63.trans (congrArg some (by kernel_rfl))
  f70 := Tryd.func64.trans (congrArg some (by kernel_rfl))
  f73 := Tryd.func65.trans (congrArg some (by kernel_rfl))
  t0 := Tryd.underlying0
  a0 := Tryd.isAgg0
  z0 := Tryd.sizeOf0
  v0 := Tryd.zeroValue0
  t3 := Tryd.underlying3
  a3 := Tryd.isAgg3
  z3 := Tryd.sizeOf3
  v3 := Tryd.zeroValue3
  t4 := Tryd.underlying4
  a4 := Tryd.isAgg4
  z4 := Tryd.sizeOf4
  v4 := Tryd.zeroValue4
  t5 := Tryd.underlying5
  a5 := Tryd.isAgg5
  z5 := Tryd.sizeOf5
  v5 := Tryd.zeroValue5
  t9 := Tryd.underlying9
  a9 := Tryd.isAgg9
  z9 := Tryd.sizeOf9
  v9 := Tryd.zeroValue9
  t30 := Tryd.underlying62
  a30 := Tryd.isAgg62
  z30 := Tryd.sizeOf62
  v30 := Tryd.zeroValue62 }
open Go.RowKit Go.Lib in
/-- path/filepath.Base: "Base returns the last element of path. Trailing path separators are removed before extracting the last element. If the path is empty, Base returns ".". If the path consists entirely of separators, Base returns a single separator.": IT RETURNS 'Pa.base path'; the world is as it was. (LAID: no walk: one application.) -/
theorem Tryd.filepath_Base (s : ByteArray) (w : World) (hs : s.size ≤ 9223372036854775807) :
    Calls Tryd.prog 55 #[.string s] w fun e w' => e = .returned (.string ⟨(Pa.base s.data.toList).toArray⟩) ∧ w' = w := Any.filepath_Base Tryd.laysPa32 s w hs
end Go.Proofs
