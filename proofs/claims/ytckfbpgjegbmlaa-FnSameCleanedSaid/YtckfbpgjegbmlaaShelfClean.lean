/- Contracts of the library, laid at this program by the shelf's tool in plain words: path_Clean, filepath_Clean, filepath_Join, path_Clean_rules, filepath_Clean_rules, filepath_Join_rules. Each with the conditions that its theorem names. -/
import Derived.Shelf.Strings.Builder1
import Derived.Shelf.Strings.Builder2
import Derived.Shelf.Strings.OnBuilder
import Derived.Shelf.Strings.Search1
import Derived.Ground.PaProg
import Derived.Shelf.Path.FileSmall
import Derived.Shelf.Path.LazyBuf
import Derived.Shelf.Path.CleanRel
import Derived.Shelf.Path.CleanAbs
import Derived.Shelf.Path.Clean
import Derived.Shelf.Path.FLazyBuf
import Derived.Shelf.Path.FCleanPre
import Derived.Shelf.Path.FCleanRel
import Derived.Shelf.Path.FCleanAbs
import Derived.Shelf.Path.FClean
import Derived.Shelf.Path.CleanRules
import Derived.Shelf.Path.FJoin
import Derived.Shelf.Path.JoinRules
import Derived.Test.YtckfbpgjegbmlaaProg
namespace Go.Proofs
open Go.Shelf
def Try.laysPah30_ren : Go.Shelf.Ren := ⟨fun | 30 => 53 | 46 => 65 | 47 => 66 | 48 => 67 | n => n, fun | 9 => 9 | 4 => 4 | 5 => 5 | 3 => 3 | 42 => 34 | 0 => 0 | 48 => 41 | 30 => 32 | n => n, fun | n => n⟩
theorem Try.laysPah30 : Go.Proofs.Lays.ph30 Try.prog Try.laysPah30_ren := {
  mixed := by kernel_rfl
  f30 := Try.func53.trans (congrArg some (by kernel_rfl))
  f46 := Try.func65.trans (congrArg some (by kernel_rfl))
  f47 := Try.func66.trans (congrArg some (by kernel_rfl))
  f48 := Try.func67.trans (congrArg some (by kernel_rfl))
  t0 := Try.underlying0
  a0 := Try.isAgg0
  z0 := Try.sizeOf0
  v0 := Try.zeroValue0
  t3 := Try.underlying3
  a3 := Try.isAgg3
  z3 := Try.sizeOf3
  v3 := Try.zeroValue3
  t4 := Try.underlying4
  a4 := Try.isAgg4
  z4 := Try.sizeOf4
  v4 := Try.zeroValue4
  t5 := Try.underlying5
  a5 := Try.isAgg5
  z5 := Try.sizeOf5
  v5 := Try.zeroValue5
  t9 := Try.underlying9
  a9 := Try.isAgg9
  z9 := Try.sizeOf9
  v9 := Try.zeroValue9
  t30 := Try.underlying32
  a30 := Try.isAgg32
  z30 := Try.sizeOf32
  v30 := Try.zeroValue32
  t42 := Try.underlying34
  a42 := Try.isAgg34
  z42 := Try.sizeOf34
  v42 := Try.zeroValue34
  t48 := Try.underlying41
  a48 := Try.isAgg41
  z48 := Try.sizeOf41
  v48 := Try.zeroValue41
  info5 := by kernel_rfl }
def Try.laysPah37_ren : Go.Shelf.Ren := ⟨fun | 37 => 56 | 54 => 69 | 59 => 73 | 56 => 74 | 60 => 75 | 61 => 76 | 62 => 77 | 63 => 78 | 64 => 79 | 66 => 72 | 70 => 81 | 73 => 85 | n => n, fun | 9 => 9 | 3 => 3 | 4 => 4 | 5 => 5 | 53 => 45 | 0 => 0 | 55 => 47 | 30 => 32 | n => n, fun | n => n⟩
theorem Try.laysPah37 : Go.Proofs.Lays.ph37 Try.prog Try.laysPah37_ren := {
  mixed := by kernel_rfl
  f37 := Try.func56.trans (congrArg some (by kernel_rfl))
  f54 := Try.func69.trans (congrArg some (by kernel_rfl))
  f56 := Try.func74.trans (congrArg some (by kernel_rfl))
  f59 := Try.func73.trans (congrArg some (by kernel_rfl))
  f60 := Try.func75.trans (congrArg some (by kernel_rfl))
  f61 := Try.func76.trans (congrArg some (by kernel_rfl))
  f62 := Try.func77.trans (congrArg some (by kernel_rfl))
  f63 := Try.func78.trans (congrArg some (by kernel_rfl))
  f64 := Try.func79.trans (congrArg some (by kernel_rfl))
  f66 := Try.func72.trans (congrArg some (by kernel_rfl))
  f70 := Try.func81.trans (congrArg some (by kernel_rfl))
  f73 := Try.func85.trans (congrArg some (by kernel_rfl))
  t0 := Try.underlying0
  a0 := Try.isAgg0
  z0 := Try.sizeOf0
  v0 := Try.zeroValue0
  t3 := Try.underlying3
  a3 := Try.isAgg3
  z3 := Try.sizeOf3
  v3 := Try.zeroValue3
  t4 := Try.underlying4
  a4 := Try.isAgg4
  z4 := Try.sizeOf4
  v4 := Try.zeroValue4
  t5 := Try.underlying5
  a5 := Try.isAgg5
  z5 := Try.sizeOf5
  v5 := Try.zeroValue5
  t9 := Try.underlying9
  a9 := Try.isAgg9
  z9 := Try.sizeOf9
  v9 := Try.zeroValue9
  t30 := Try.underlying32
  a30 := Try.isAgg32
  z30 := Try.sizeOf32
  v30 := Try.zeroValue32
  t53 := Try.underlying45
  a53 := Try.isAgg45
  z53 := Try.sizeOf45
  v53 := Try.zeroValue45
  t55 := Try.underlying47
  a55 := Try.isAgg47
  z55 := Try.sizeOf47
  v55 := Try.zeroValue47
  info5 := by kernel_rfl }
def Try.laysPah38_ren : Go.Shelf.Ren := ⟨fun | 38 => 57 | 55 => 70 | 65 => 80 | 37 => 56 | 67 => 82 | 68 => 83 | 69 => 84 | 54 => 69 | 71 => 86 | 72 => 87 | 59 => 73 | 56 => 74 | 60 => 75 | 61 => 76 | 62 => 77 | 63 => 78 | 64 => 79 | 74 => 88 | 75 => 89 | 66 => 72 | 70 => 81 | 73 => 85 | n => n, fun | 26 => 24 | 9 => 9 | 3 => 3 | 0 => 0 | 4 => 4 | 20 => 20 | 60 => 52 | 38 => 56 | 58 => 50 | 30 => 32 | 35 => 55 | 63 => 58 | 5 => 5 | 53 => 45 | 55 => 47 | 64 => 59 | 45 => 37 | n => n, fun | n => n⟩
theorem Try.laysPah38 : Go.Proofs.Lays.ph38 Try.prog Try.laysPah38_ren := {
  mixed := by kernel_rfl
  f37 := Try.func56.trans (congrArg some (by kernel_rfl))
  f38 := Try.func57.trans (congrArg some (by kernel_rfl))
  f54 := Try.func69.trans (congrArg some (by kernel_rfl))
  f55 := Try.func70.trans (congrArg some (by kernel_rfl))
  f56 := Try.func74.trans (congrArg some (by kernel_rfl))
  f59 := Try.func73.trans (congrArg some (by kernel_rfl))
  f60 := Try.func75.trans (congrArg some (by kernel_rfl))
  f61 := Try.func76.trans (congrArg some (by kernel_rfl))
  f62 := Try.func77.trans (congrArg some (by kernel_rfl))
  f63 := Try.func78.trans (congrArg some (by kernel_rfl))
  f64 := Try.func79.trans (congrArg some (by kernel_rfl))
  f65 := Try.func80.trans (congrArg some (by kernel_rfl))
  f66 := Try.func72.trans (congrArg some (by kernel_rfl))
  f67 := Try.func82.trans (congrArg some (by kernel_rfl))
  f68 := Try.func83.trans (congrArg some (by kernel_rfl))
  f69 := Try.func84.trans (congrArg some (by kernel_rfl))
  f70 := Try.func81.trans (congrArg some (by kernel_rfl))
  f71 := Try.func86.trans (congrArg some (by kernel_rfl))
  f72 := Try.func87.trans (congrArg some (by kernel_rfl))
  f73 := Try.func85.trans (congrArg some (by kernel_rfl))
  f74 := Try.func88.trans (congrArg some (by kernel_rfl))
  f75 := Try.func89.trans (congrArg some (by kernel_rfl))
  t0 := Try.underlying0
  a0 := Try.isAgg0
  z0 := Try.sizeOf0
  v0 := Try.zeroValue0
  t3 := Try.underlying3
  a3 := Try.isAgg3
  z3 := Try.sizeOf3
  v3 := Try.zeroValue3
  t4 := Try.underlying4
  a4 := Try.isAgg4
  z4 := Try.sizeOf4
  v4 := Try.zeroValue4
  t5 := Try.underlying5
  a5 := Try.isAgg5
  z5 := Try.sizeOf5
  v5 := Try.zeroValue5
  t9 := Try.underlying9
  a9 := Try.isAgg9
  z9 := Try.sizeOf9
  v9 := Try.zeroValue9
  t20 := Try.underlying20
  a20 := Try.isAgg20
  z20 := Try.sizeOf20
  v20 := Try.zeroValue20
  t26 := Try.underlying24
  a26 := Try.isAgg24
  z26 := Try.sizeOf24
  v26 := Try.zeroValue24
  t30 := Try.underlying32
  a30 := Try.isAgg32
  z30 := Try.sizeOf32
  v30 := Try.zeroValue32
  t35 := Try.underlying55
  a35 := Try.isAgg55
  z35 := Try.sizeOf55
  v35 := Try.zeroValue55
  t38 := Try.underlying56
  a38 := Try.isAgg56
  z38 := Try.sizeOf56
  v38 := Try.zeroValue56
  t45 := Try.underlying37
  a45 := Try.isAgg37
  z45 := Try.sizeOf37
  v45 := Try.zeroValue37
  t53 := Try.underlying45
  a53 := Try.isAgg45
  z53 := Try.sizeOf45
  v53 := Try.zeroValue45
  t55 := Try.underlying47
  a55 := Try.isAgg47
  z55 := Try.sizeOf47
  v55 := Try.zeroValue47
  t58 := Try.underlying50
  a58 := Try.isAgg50
  z58 := Try.sizeOf50
  v58 := Try.zeroValue50
  t60 := Try.underlying52
  a60 := Try.isAgg52
  z60 := Try.sizeOf52
  v60 := Try.zeroValue52
  t63 := Try.underlying58
  a63 := Try.isAgg58
  z63 := Try.sizeOf58
  v63 := Try.zeroValue58
  t64 := Try.underlying59
  a64 := Try.isAgg59
  z64 := Try.sizeOf59
  v64 := Try.zeroValue59
  sizeBuilder := by kernel_rfl
  liesBuilder := by kernel_rfl
  info5 := by kernel_rfl
  cellsByte := by kernel_rfl
  sizeByte := by kernel_rfl
  neB5 := by kernel_rfl }
open Go.RowKit Go.Lib in
/-- path.Clean: "Clean returns the shortest path name equivalent to path by purely lexical processing. It applies the following rules iteratively until no further processing can be done: 1. Replace multiple slashes with a single slash. 2. Eliminate each . path name element (the current directory). 3. Eliminate each inner .. path name element (the parent directory) along with the non-.. element that precedes it. 4. Eliminate .. elements that begin a rooted path: that is, replace "/.." by "/" at the beginning of a path. The returned path ends in a slash only if it is the root "/". If the result of this process is an empty string, Clean returns the string ".".": IT RETURNS 'Pa.clean path'. (LAID: no walk: one application.) -/
theorem Try.path_Clean (s : ByteArray) (w : World) (hbig : s.size ≤ 281474976710656) :
    Calls Try.prog 53 #[.string s] w fun e w' => e = .returned (.string ⟨(Pa.clean s.data.toList).toArray⟩) ∧ Below w.heap.size w w' := Any.path_Clean Try.laysPah30 s w hbig
open Go.RowKit Go.Lib in
/-- path/filepath.Clean (linux): "Clean returns the shortest path name equivalent to path by purely lexical processing. It applies the following rules iteratively until no further processing can be done: 1. Replace multiple Separator elements with a single one. 2. Eliminate each . path name element (the current directory). 3. Eliminate each inner .. path name element (the parent directory) along with the non-.. element that precedes it. 4. Eliminate .. elements that begin a rooted path: that is, replace "/.." by "/" at the beginning of a path, assuming Separator is '/'. The returned path ends in a slash only if it represents a root directory, such as "/" on Unix .. If the result of this process is an empty string, Clean returns the string ".".": IT RETURNS 'Pa.clean path'. (LAID: no walk: one application.) -/
theorem Try.filepath_Clean (s : ByteArray) (w : World) (hbig : s.size ≤ 281474976710656) :
    Calls Try.prog 56 #[.string s] w fun e w' => e = .returned (.string ⟨(Pa.clean s.data.toList).toArray⟩) ∧ Below w.heap.size w w' := Any.filepath_Clean Try.laysPah37 s w hbig
open Go.RowKit Go.Lib in
theorem Try.path_Clean_rules (s : ByteArray) (w : World) (hbig : s.size ≤ 281474976710656) :
    Calls Try.prog 53 #[.string s] w fun e w' => e = .returned (.string ⟨(Pa.cleanEls s.data.toList).toArray⟩) ∧ Below w.heap.size w w' := Any.path_Clean_rules Try.laysPah30 s w hbig
open Go.RowKit Go.Lib in
theorem Try.filepath_Clean_rules (s : ByteArray) (w : World) (hbig : s.size ≤ 281474976710656) :
    Calls Try.prog 56 #[.string s] w fun e w' => e = .returned (.string ⟨(Pa.cleanEls s.data.toList).toArray⟩) ∧ Below w.heap.size w w' := Any.filepath_Clean_rules Try.laysPah37 s w hbig
open Go.RowKit Go.Lib in
/-- path/filepath.Join (linux): "Join joins any number of path elements into a single path, separating them with an OS specific Separator. Empty elements are ignored. The result is Cleaned. However, if the argument list is empty or all its elements are empty, Join returns an empty string.": THE ARGUMENT AS strings.Join's CONTRACT HAS IT: a slice of xs.length strings at ⟨bk, o⟩, capacity c, whose cells hold xs. IT RETURNS 'Pa.fjoin (the elements)' (Derived/Lib/FJoinFns.lean); what was there before the call is as it was ('Below'). IT ASKS that the elements' lengths and their number together stay within 2^47 (strings.Join's contract's own bound). (LAID: no walk: one application.) -/
theorem Try.filepath_Join (bk o c : Nat) (xs : List ByteArray) (w : World) (hcells : ∀ (j : Nat) x, xs[j]? = some x → w.cell? ⟨bk, o + j, none⟩ = some (.string x)) (hbk : bk < w.heap.size) (hcap : xs.length ≤ c) (hlen : Lib.lens (xs.map (·.data.toList)) + xs.length ≤ 140737488355328) :
    Calls Try.prog 57 #[.slice (some ⟨bk, o, none⟩) xs.length c] w fun e w' => e = .returned (.string ⟨(Pa.fjoin (xs.map (·.data.toList))).toArray⟩) ∧ Below w.heap.size w w' := Any.filepath_Join Try.laysPah38 bk o c xs w hcells hbk hcap hlen
open Go.RowKit Go.Lib in
theorem Try.filepath_Join_rules (bk o c : Nat) (xs : List ByteArray) (w : World) (hcells : ∀ (j : Nat) x, xs[j]? = some x → w.cell? ⟨bk, o + j, none⟩ = some (.string x)) (hbk : bk < w.heap.size) (hcap : xs.length ≤ c) (hlen : Lib.lens (xs.map (·.data.toList)) + xs.length ≤ 140737488355328) :
    Calls Try.prog 57 #[.slice (some ⟨bk, o, none⟩) xs.length c] w fun e w' => e = .returned (.string ⟨(Pa.join (xs.map (·.data.toList))).toArray⟩) ∧ Below w.heap.size w w' := Any.filepath_Join_rules Try.laysPah38 bk o c xs w hcells hbk hcap hlen
end Go.Proofs
