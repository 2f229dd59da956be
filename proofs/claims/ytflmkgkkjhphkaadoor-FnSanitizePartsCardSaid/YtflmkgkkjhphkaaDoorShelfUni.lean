/- Contracts of the library, laid at this program by the shelf's tool in plain words: unicode_IsLetter_all, unicode_IsDigit_all, unicode_IsMark_all, unicode_IsSpace_any. Each with the conditions that its theorem names. -/
import Derived.Shelf.Unicode.Latin
import Derived.Shelf.Unicode.Props
import Derived.Shelf.Unicode.Is16White
import Derived.Shelf.Unicode.IsSpaceAny
import Derived.Shelf.Unicode.Is16Any
import Derived.Shelf.Unicode.Is32Any
import Derived.Shelf.Unicode.ExclAny
import Derived.Shelf.Unicode.PredsAny
import Derived.Shelf.Unicode.PredsPay
import Derived.Ground.GgnProg
import Derived.Shelf.Unicode.PredsGn
import Derived.Shelf.Unicode.PredsGnPay
import Derived.Test.YtflmkgkkjhphkaaDoorProg
namespace Go.Proofs
open Go.Shelf
def Tryd.lays198_ren : Go.Shelf.Ren := ⟨fun | 198 => 20 | 261 => 22 | 311 => 24 | 312 => 25 | n => n, fun | 21 => 21 | 4 => 4 | 141 => 34 | 0 => 0 | 196 => 40 | 193 => 37 | 3 => 3 | 51 => 32 | 198 => 43 | 49 => 41 | 194 => 38 | 201 => 46 | 226 => 49 | 46 => 50 | 227 => 51 | n => n, fun | 5 => 3 | n => n⟩
theorem Tryd.lays198 : Go.Proofs.Lays.n198 Tryd.prog Tryd.lays198_ren := {
  mixed := by kernel_rfl
  f198 := Tryd.func20.trans (congrArg some (by kernel_rfl))
  f261 := Tryd.func22.trans (congrArg some (by kernel_rfl))
  f311 := Tryd.func24.trans (congrArg some (by kernel_rfl))
  f312 := Tryd.func25.trans (congrArg some (by kernel_rfl))
  t0 := Tryd.underlying0
  a0 := Tryd.isAgg0
  z0 := Tryd.sizeOf0
  v0 := Tryd.zeroValue0
  t3 := Tryd.underlying3
  a3 := Tryd.isAgg3
  z3 := Tryd.sizeOf3
  v3 := Tryd.zeroValue3
  t4 := Tryd.underlying4
  a4 := Tryd.isAgg4
  z4 := Tryd.sizeOf4
  v4 := Tryd.zeroValue4
  t21 := Tryd.underlying21
  a21 := Tryd.isAgg21
  z21 := Tryd.sizeOf21
  v21 := Tryd.zeroValue21
  t46 := Tryd.underlying50
  a46 := Tryd.isAgg50
  z46 := Tryd.sizeOf50
  v46 := Tryd.zeroValue50
  t49 := Tryd.underlying41
  a49 := Tryd.isAgg41
  z49 := Tryd.sizeOf41
  v49 := Tryd.zeroValue41
  t51 := Tryd.underlying32
  a51 := Tryd.isAgg32
  z51 := Tryd.sizeOf32
  v51 := Tryd.zeroValue32
  t141 := Tryd.underlying34
  a141 := Tryd.isAgg34
  z141 := Tryd.sizeOf34
  v141 := Tryd.zeroValue34
  t193 := Tryd.underlying37
  a193 := Tryd.isAgg37
  z193 := Tryd.sizeOf37
  v193 := Tryd.zeroValue37
  t194 := Tryd.underlying38
  a194 := Tryd.isAgg38
  z194 := Tryd.sizeOf38
  v194 := Tryd.zeroValue38
  t196 := Tryd.underlying40
  a196 := Tryd.isAgg40
  z196 := Tryd.sizeOf40
  v196 := Tryd.zeroValue40
  t198 := Tryd.underlying43
  a198 := Tryd.isAgg43
  z198 := Tryd.sizeOf43
  v198 := Tryd.zeroValue43
  t201 := Tryd.underlying46
  a201 := Tryd.isAgg46
  z201 := Tryd.sizeOf46
  v201 := Tryd.zeroValue46
  t226 := Tryd.underlying49
  a226 := Tryd.isAgg49
  z226 := Tryd.sizeOf49
  v226 := Tryd.zeroValue49
  t227 := Tryd.underlying51
  a227 := Tryd.isAgg51
  z227 := Tryd.sizeOf51
  v227 := Tryd.zeroValue51
  g5 := by kernel_rfl }
def Tryd.lays199_ren : Go.Shelf.Ren := ⟨fun | 199 => 16 | 261 => 22 | 311 => 24 | 312 => 25 | n => n, fun | 21 => 21 | 4 => 4 | 51 => 32 | 141 => 34 | 0 => 0 | 196 => 40 | 193 => 37 | 3 => 3 | 198 => 43 | 49 => 41 | 194 => 38 | 201 => 46 | 226 => 49 | 46 => 50 | 227 => 51 | n => n, fun | 6 => 0 | n => n⟩
theorem Tryd.lays199 : Go.Proofs.Lays.n199 Tryd.prog Tryd.lays199_ren := {
  mixed := by kernel_rfl
  f199 := Tryd.func16.trans (congrArg some (by kernel_rfl))
  f261 := Tryd.func22.trans (congrArg some (by kernel_rfl))
  f311 := Tryd.func24.trans (congrArg some (by kernel_rfl))
  f312 := Tryd.func25.trans (congrArg some (by kernel_rfl))
  t0 := Tryd.underlying0
  a0 := Tryd.isAgg0
  z0 := Tryd.sizeOf0
  v0 := Tryd.zeroValue0
  t3 := Tryd.underlying3
  a3 := Tryd.isAgg3
  z3 := Tryd.sizeOf3
  v3 := Tryd.zeroValue3
  t4 := Tryd.underlying4
  a4 := Tryd.isAgg4
  z4 := Tryd.sizeOf4
  v4 := Tryd.zeroValue4
  t21 := Tryd.underlying21
  a21 := Tryd.isAgg21
  z21 := Tryd.sizeOf21
  v21 := Tryd.zeroValue21
  t46 := Tryd.underlying50
  a46 := Tryd.isAgg50
  z46 := Tryd.sizeOf50
  v46 := Tryd.zeroValue50
  t49 := Tryd.underlying41
  a49 := Tryd.isAgg41
  z49 := Tryd.sizeOf41
  v49 := Tryd.zeroValue41
  t51 := Tryd.underlying32
  a51 := Tryd.isAgg32
  z51 := Tryd.sizeOf32
  v51 := Tryd.zeroValue32
  t141 := Tryd.underlying34
  a141 := Tryd.isAgg34
  z141 := Tryd.sizeOf34
  v141 := Tryd.zeroValue34
  t193 := Tryd.underlying37
  a193 := Tryd.isAgg37
  z193 := Tryd.sizeOf37
  v193 := Tryd.zeroValue37
  t194 := Tryd.underlying38
  a194 := Tryd.isAgg38
  z194 := Tryd.sizeOf38
  v194 := Tryd.zeroValue38
  t196 := Tryd.underlying40
  a196 := Tryd.isAgg40
  z196 := Tryd.sizeOf40
  v196 := Tryd.zeroValue40
  t198 := Tryd.underlying43
  a198 := Tryd.isAgg43
  z198 := Tryd.sizeOf43
  v198 := Tryd.zeroValue43
  t201 := Tryd.underlying46
  a201 := Tryd.isAgg46
  z201 := Tryd.sizeOf46
  v201 := Tryd.zeroValue46
  t226 := Tryd.underlying49
  a226 := Tryd.isAgg49
  z226 := Tryd.sizeOf49
  v226 := Tryd.zeroValue49
  t227 := Tryd.underlying51
  a227 := Tryd.isAgg51
  z227 := Tryd.sizeOf51
  v227 := Tryd.zeroValue51
  g6 := by kernel_rfl }
def Tryd.lays200_ren : Go.Shelf.Ren := ⟨fun | 200 => 19 | 261 => 22 | 311 => 24 | 312 => 25 | n => n, fun | 21 => 21 | 4 => 4 | 51 => 32 | 5 => 5 | 119 => 36 | 0 => 0 | 141 => 34 | 196 => 40 | 193 => 37 | 3 => 3 | 198 => 43 | 49 => 41 | 194 => 38 | 201 => 46 | 226 => 49 | 46 => 50 | 227 => 51 | n => n, fun | 7 => 1 | 8 => 2 | n => n⟩
theorem Tryd.lays200 : Go.Proofs.Lays.n200 Tryd.prog Tryd.lays200_ren := {
  mixed := by kernel_rfl
  f200 := Tryd.func19.trans (congrArg some (by kernel_rfl))
  f261 := Tryd.func22.trans (congrArg some (by kernel_rfl))
  f311 := Tryd.func24.trans (congrArg some (by kernel_rfl))
  f312 := Tryd.func25.trans (congrArg some (by kernel_rfl))
  t0 := Tryd.underlying0
  a0 := Tryd.isAgg0
  z0 := Tryd.sizeOf0
  v0 := Tryd.zeroValue0
  t3 := Tryd.underlying3
  a3 := Tryd.isAgg3
  z3 := Tryd.sizeOf3
  v3 := Tryd.zeroValue3
  t4 := Tryd.underlying4
  a4 := Tryd.isAgg4
  z4 := Tryd.sizeOf4
  v4 := Tryd.zeroValue4
  t5 := Tryd.underlying5
  a5 := Tryd.isAgg5
  z5 := Tryd.sizeOf5
  v5 := Tryd.zeroValue5
  t21 := Tryd.underlying21
  a21 := Tryd.isAgg21
  z21 := Tryd.sizeOf21
  v21 := Tryd.zeroValue21
  t46 := Tryd.underlying50
  a46 := Tryd.isAgg50
  z46 := Tryd.sizeOf50
  v46 := Tryd.zeroValue50
  t49 := Tryd.underlying41
  a49 := Tryd.isAgg41
  z49 := Tryd.sizeOf41
  v49 := Tryd.zeroValue41
  t51 := Tryd.underlying32
  a51 := Tryd.isAgg32
  z51 := Tryd.sizeOf32
  v51 := Tryd.zeroValue32
  t119 := Tryd.underlying36
  a119 := Tryd.isAgg36
  z119 := Tryd.sizeOf36
  t141 := Tryd.underlying34
  a141 := Tryd.isAgg34
  z141 := Tryd.sizeOf34
  v141 := Tryd.zeroValue34
  t193 := Tryd.underlying37
  a193 := Tryd.isAgg37
  z193 := Tryd.sizeOf37
  v193 := Tryd.zeroValue37
  t194 := Tryd.underlying38
  a194 := Tryd.isAgg38
  z194 := Tryd.sizeOf38
  v194 := Tryd.zeroValue38
  t196 := Tryd.underlying40
  a196 := Tryd.isAgg40
  z196 := Tryd.sizeOf40
  v196 := Tryd.zeroValue40
  t198 := Tryd.underlying43
  a198 := Tryd.isAgg43
  z198 := Tryd.sizeOf43
  v198 := Tryd.zeroValue43
  t201 := Tryd.underlying46
  a201 := Tryd.isAgg46
  z201 := Tryd.sizeOf46
  v201 := Tryd.zeroValue46
  t226 := Tryd.underlying49
  a226 := Tryd.isAgg49
  z226 := Tryd.sizeOf49
  v226 := Tryd.zeroValue49
  t227 := Tryd.underlying51
  a227 := Tryd.isAgg51
  z227 := Tryd.sizeOf51
  v227 := Tryd.zeroValue51
  g7 := by kernel_rfl
  g8 := by kernel_rfl }
open Go.RowKit Go.Lib in
/-- **unicode.IsSpace AT EVERY int32.** (LAID: no walk: one application.) -/
theorem Tryd.unicode_IsSpace_any (r : Int) (w : World) (hlo : -2147483648 ≤ r) (hhi : r ≤ 2147483647) (hW : Lib.WhiteTab 0 w) :
    Calls Tryd.prog 16 #[.int .i32 r] w fun e w' => e = .returned (.bool (Lib.isSpaceZ r)) ∧ Below w.heap.size w w' := Any.unicode_IsSpace_any Tryd.lays199 r w hlo hhi hW
open Go.RowKit Go.Lib in
/-- unicode.IsLetter(r) AT EVERY int32, the tables as their initialisers lay them: 'Lib.isLetterU r'. (LAID: no walk: one application.) -/
theorem Tryd.unicode_IsLetter_all (r : Int) (w : World) (hlo : -2147483648 ≤ r) (hhi : r ≤ 2147483647) (htab : Lib.TabIs Tryd.prog w "unicode.properties" .u8 Lib.propertiesTab) (hV : RVar 2 letterT w) :
    Calls Tryd.prog 19 #[.int .i32 r] w fun e w' => e = .returned (.bool (isLetterU r)) ∧ Below w.heap.size w w' := Any.unicode_IsLetter_all Tryd.lays200 (by kernel_rfl) r w hlo hhi htab hV
open Go.RowKit Go.Lib in
/-- unicode.IsDigit(r) AT EVERY int32: 'Lib.isDigitU r'. (LAID: no walk: one application.) -/
theorem Tryd.unicode_IsDigit_all (r : Int) (w : World) (hlo : -2147483648 ≤ r) (hhi : r ≤ 2147483647) (hV : RVar 3 digitT w) :
    Calls Tryd.prog 20 #[.int .i32 r] w fun e w' => e = .returned (.bool (isDigitU r)) ∧ Below w.heap.size w w' := Any.unicode_IsDigit_all Tryd.lays198 r w hlo hhi hV
def Tryd.laysGn19_ren : Go.Shelf.Ren := ⟨fun | 19 => 21 | 27 => 22 | 25 => 24 | 26 => 25 | n => n, fun | 21 => 21 | 4 => 4 | 22 => 34 | 0 => 0 | 31 => 40 | 28 => 37 | 3 => 3 | 32 => 32 | 35 => 43 | 33 => 41 | 29 => 38 | 38 => 46 | 41 => 49 | 42 => 50 | 43 => 51 | n => n, fun | 3 => 4 | n => n⟩
theorem Tryd.laysGn19 : Go.Proofs.LaysGn.n19 Tryd.prog Tryd.laysGn19_ren := {
  mixed := by kernel_rfl
  f19 := Tryd.func21.trans (congrArg some (by kernel_rfl))
  f25 := Tryd.func24.trans (congrArg some (by kernel_rfl))
  f26 := Tryd.func25.trans (congrArg some (by kernel_rfl))
  f27 := Tryd.func22.trans (congrArg some (by kernel_rfl))
  t0 := Tryd.underlying0
  a0 := Tryd.isAgg0
  z0 := Tryd.sizeOf0
  v0 := Tryd.zeroValue0
  i0 := by kernel_rfl
  t3 := Tryd.underlying3
  a3 := Tryd.isAgg3
  z3 := Tryd.sizeOf3
  v3 := Tryd.zeroValue3
  i3 := by kernel_rfl
  t4 := Tryd.underlying4
  a4 := Tryd.isAgg4
  z4 := Tryd.sizeOf4
  v4 := Tryd.zeroValue4
  i4 := by kernel_rfl
  t21 := Tryd.underlying21
  a21 := Tryd.isAgg21
  z21 := Tryd.sizeOf21
  v21 := Tryd.zeroValue21
  i21 := by kernel_rfl
  t22 := Tryd.underlying34
  a22 := Tryd.isAgg34
  z22 := Tryd.sizeOf34
  v22 := Tryd.zeroValue34
  i22 := by kernel_rfl
  t28 := Tryd.underlying37
  a28 := Tryd.isAgg37
  z28 := Tryd.sizeOf37
  v28 := Tryd.zeroValue37
  i28 := by kernel_rfl
  t29 := Tryd.underlying38
  a29 := Tryd.isAgg38
  z29 := Tryd.sizeOf38
  v29 := Tryd.zeroValue38
  i29 := by kernel_rfl
  t31 := Tryd.underlying40
  a31 := Tryd.isAgg40
  z31 := Tryd.sizeOf40
  v31 := Tryd.zeroValue40
  i31 := by kernel_rfl
  t32 := Tryd.underlying32
  a32 := Tryd.isAgg32
  z32 := Tryd.sizeOf32
  v32 := Tryd.zeroValue32
  i32 := by kernel_rfl
  t33 := Tryd.underlying41
  a33 := Tryd.isAgg41
  z33 := Tryd.sizeOf41
  v33 := Tryd.zeroValue41
  i33 := by kernel_rfl
  t35 := Tryd.underlying43
  a35 := Tryd.isAgg43
  z35 := Tryd.sizeOf43
  v35 := Tryd.zeroValue43
  i35 := by kernel_rfl
  t38 := Tryd.underlying46
  a38 := Tryd.isAgg46
  z38 := Tryd.sizeOf46
  v38 := Tryd.zeroValue46
  i38 := by kernel_rfl
  t41 := Tryd.underlying49
  a41 := Tryd.isAgg49
  z41 := Tryd.sizeOf49
  v41 := Tryd.zeroValue49
  i41 := by kernel_rfl
  t42 := Tryd.underlying50
  a42 := Tryd.isAgg50
  z42 := Tryd.sizeOf50
  v42 := Tryd.zeroValue50
  i42 := by kernel_rfl
  t43 := Tryd.underlying51
  a43 := Tryd.isAgg51
  z43 := Tryd.sizeOf51
  v43 := Tryd.zeroValue51
  i43 := by kernel_rfl
  g3 := by kernel_rfl
  m3 := by kernel_rfl }
open Go.RowKit Go.Lib in
/-- unicode.IsMark(r) AT EVERY int32, the tables as their initialisers lay them: 'Lib.isMarkU r'. (LAID: no walk: one application.) -/
theorem Tryd.unicode_IsMark_all (r : Int) (w : World) (hlo : -2147483648 ≤ r) (hhi : r ≤ 2147483647) (hV : RVar 4 markT w) :
    Calls Tryd.prog 21 #[.int .i32 r] w fun e w' => e = .returned (.bool (isMarkU r)) ∧ Below w.heap.size w w' := Any.unicode_IsMark_all Tryd.laysGn19 r w hlo hhi hV
end Go.Proofs
