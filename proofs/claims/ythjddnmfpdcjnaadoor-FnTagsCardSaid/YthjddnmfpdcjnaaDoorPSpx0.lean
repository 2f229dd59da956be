/- Printed by a program of this session (a printer turned to take contracts that were proved by hand): functions with the answers of the Go functions, and proofs that the code comes to these answers; no condition beyond what each theorem names. -/
import Derived.Test.YthjddnmfpdcjnaaDoorProg
import Derived.Below
import Derived.Deep.Draws
import Derived.Deep.AppendLies
import Derived.Maps.AppendAt
import Derived.OwnWalk
import Derived.Laws.BytesArg
import Derived.Laws.MakeOwn
import Derived.Laws.OwnMore
import Derived.Deep.OwnRows
import Derived.Tactics
import Derived.Lib.ConvBytes
import Derived.Laws.Slices
import Derived.WalkKit
import Derived.KernelRfl
import Derived.RowKit3
import Derived.Deep.LoopGhost
import Derived.Deep.QuietTactic
import Derived.BigQuiet
import Derived.WideLaws
import Derived.Deep.DeepCutAuto
import Derived.Deep.CutBlock
import Derived.Deep.RegionHeld3
import Derived.Laws.Rows
import Derived.Lib.AppendStr
import Derived.ArgAppend
import Derived.Laws.IdiomCopy
import Derived.OrdersHeld
import Derived.Laws.BitsLemmas
import Derived.RowKit
import Derived.Test.YthjddnmfpdcjnaaDoorWWords
import Derived.Test.YthjddnmfpdcjnaaDoorWLast
import Derived.Test.YthjddnmfpdcjnaaDoorWTab
import Derived.Test.YthjddnmfpdcjnaaDoorWFour
import Derived.Test.YthjddnmfpdcjnaaDoorWQPut
import Derived.Test.YthjddnmfpdcjnaaDoorWApart
import Derived.Test.YthjddnmfpdcjnaaDoorWArr
import Derived.Test.YthjddnmfpdcjnaaDoorWZeros
import Derived.Test.YthjddnmfpdcjnaaDoorWFoot
import Derived.Test.YthjddnmfpdcjnaaDoorWKept
import Derived.Test.YthjddnmfpdcjnaaDoorWShare
import Derived.Test.YthjddnmfpdcjnaaDoorWN
import Derived.Test.YthjddnmfpdcjnaaDoorWFootNe
import Derived.Test.YthjddnmfpdcjnaaDoorWAt
import Derived.Test.YthjddnmfpdcjnaaDoorWEqStruct
import Derived.Test.YthjddnmfpdcjnaaDoorWRepsOne
import Derived.Test.YthjddnmfpdcjnaaDoorWInv
import Derived.Test.YthjddnmfpdcjnaaDoorWInvWords
import Derived.Test.YthjddnmfpdcjnaaDoorWGuard
import Derived.Test.YthjddnmfpdcjnaaDoorWNEv
import Derived.Test.YthjddnmfpdcjnaaDoorWMore
import Derived.Test.YthjddnmfpdcjnaaDoorLib0
import Derived.Test.YthjddnmfpdcjnaaDoorOwnTags
import Derived.Test.YthjddnmfpdcjnaaDoorOwnSpec
namespace Go.Proofs.YthjddnmfpdcjnaaDoor.PSp
open Go.RowKit Go.Proofs.YthjddnmfpdcjnaaDoorW.PrintWords Go.Proofs.YthjddnmfpdcjnaaDoorW.PrintLast Go.Proofs.YthjddnmfpdcjnaaDoorW.PrintMore
attribute [local go_sem] max2_int min2_int max_two min_two max_three min_three max_four min_four   -- for this text's walks alone
set_option linter.unusedVariables false
set_option linter.unusedSimpArgs false



def errW : Option Int → Value
  | none => .nilIface
  | some c => .iface 0 (.int .i64 c)
theorem errW_none : errW none = .nilIface := rfl
theorem errW_some (c : Int) : errW (some c) = .iface 0 (.int .i64 c) := rfl

theorem info27 : (Tryd.prog.info? 27).map (fun i => (i.zero, i.size, i.bytes)) = some (some (.agg #[(.int .i64 0), (.int .i64 0), (.string ⟨#[]⟩)]), 3, 32) := by kernel_rfl
theorem info32 : (Tryd.prog.info? 32).map (fun i => (i.zero, i.size, i.bytes)) = some (some (.agg #[(.int .i64 0), (.string ⟨#[]⟩), (.bool false), (.int .i64 0), (.bool false), (.int .i64 0)]), 6, 56) := by kernel_rfl
-- the values' own types
/-! #### struct type 27 -/
structure S27 where
  f0 : Int
  f1 : Int
  f2 : ByteArray
def z27 : S27 := ⟨(0 : Int), (0 : Int), (⟨#[]⟩ : ByteArray)⟩
def k27 : Kd S27 := Kd.iso (Kd.pair (Kd.int .i64) (Kd.pair (Kd.int .i64) Kd.string)) (fun x : S27 => (x.f0, x.f1, x.f2))
theorem k27_open {w : World} {x : S27} {cs : List Value} (h : k27.K w x cs) : cs = [.int .i64 x.f0, .int .i64 x.f1, .string x.f2] := by
  obtain ⟨_, _, rfl, rfl, ⟨_, _, rfl, rfl, rfl⟩⟩ := h
  exact rfl
theorem k27_openM {w : World} {base : Nat} {ok : Nat → Prop} {x : S27} {cs : List Value} (h : k27.M w base ok x cs) : cs = [.int .i64 x.f0, .int .i64 x.f1, .string x.f2] := by
  obtain ⟨_, _, rfl, rfl, ⟨_, _, rfl, rfl, rfl⟩⟩ := h
  exact rfl
theorem k27_mk (w : World) (x : S27)  : k27.K w x [.int .i64 x.f0, .int .i64 x.f1, .string x.f2] := ⟨[.int .i64 x.f0], [.int .i64 x.f1, .string x.f2], rfl, rfl, ⟨[.int .i64 x.f1], [.string x.f2], rfl, rfl, rfl⟩⟩
theorem k27_mkM (w : World) (base : Nat) (ok : Nat → Prop) (x : S27)  : k27.M w base ok x [.int .i64 x.f0, .int .i64 x.f1, .string x.f2] := ⟨[.int .i64 x.f0], [.int .i64 x.f1, .string x.f2], rfl, rfl, ⟨[.int .i64 x.f1], [.string x.f2], rfl, rfl, rfl⟩⟩
def rd_T27 (xs : List S27) (i : Int) : S27 := xs.getD i.toNat z27
theorem at_T27 {w : World} {A : Option Addr} {n : Nat} {xs : List S27} (h : Kd.C k27 w A n xs) (i : Int) (h0 : 0 ≤ i) (h1 : i < n) : ∃ ad , A = some ad ∧ w.cell? (ad.add (i.toNat * 3)) = some (.int .i64 (rd_T27 xs i).f0) ∧ w.cell? ⟨(ad.add (i.toNat * 3)).block, (ad.add (i.toNat * 3)).off + 1, none⟩ = some (.int .i64 (rd_T27 xs i).f1) ∧ w.cell? ⟨(ad.add (i.toNat * 3)).block, (ad.add (i.toNat * 3)).off + 2, none⟩ = some (.string (rd_T27 xs i).f2) := by
  obtain ⟨ad, c, e, _, hK, hc0⟩ := Kd.C_get h z27 i h0 h1
  have hc : ∀ j u, c[j]? = some u → w.cell? (ad.add (i.toNat * 3 + j)) = some u := hc0
  obtain rfl := k27_open hK
  exact ⟨ad, e, hc 0 _ rfl, by rw [← add_field _ _ 1 (by omega)]; exact hc 1 _ rfl, by rw [← add_field _ _ 2 (by omega)]; exact hc 2 _ rfl⟩

/-! #### struct type 30 -/
structure S30 where
  f0 : Int
  f1 : ByteArray
  f2 : Bool
  f3 : Int
def z30 : S30 := ⟨(0 : Int), (⟨#[]⟩ : ByteArray), false, (0 : Int)⟩
def k30 : Kd S30 := Kd.iso (Kd.pair (Kd.int .i64) (Kd.pair Kd.string (Kd.pair Kd.bool (Kd.int .i64)))) (fun x : S30 => (x.f0, x.f1, x.f2, x.f3))
theorem k30_open {w : World} {x : S30} {cs : List Value} (h : k30.K w x cs) : cs = [.int .i64 x.f0, .string x.f1, .bool x.f2, .int .i64 x.f3] := by
  obtain ⟨_, _, rfl, rfl, ⟨_, _, rfl, rfl, ⟨_, _, rfl, rfl, rfl⟩⟩⟩ := h
  exact rfl
theorem k30_openM {w : World} {base : Nat} {ok : Nat → Prop} {x : S30} {cs : List Value} (h : k30.M w base ok x cs) : cs = [.int .i64 x.f0, .string x.f1, .bool x.f2, .int .i64 x.f3] := by
  obtain ⟨_, _, rfl, rfl, ⟨_, _, rfl, rfl, ⟨_, _, rfl, rfl, rfl⟩⟩⟩ := h
  exact rfl
theorem k30_mk (w : World) (x : S30)  : k30.K w x [.int .i64 x.f0, .string x.f1, .bool x.f2, .int .i64 x.f3] := ⟨[.int .i64 x.f0], [.string x.f1, .bool x.f2, .int .i64 x.f3], rfl, rfl, ⟨[.string x.f1], [.bool x.f2, .int .i64 x.f3], rfl, rfl, ⟨[.bool x.f2], [.int .i64 x.f3], rfl, rfl, rfl⟩⟩⟩
theorem k30_mkM (w : World) (base : Nat) (ok : Nat → Prop) (x : S30)  : k30.M w base ok x [.int .i64 x.f0, .string x.f1, .bool x.f2, .int .i64 x.f3] := ⟨[.int .i64 x.f0], [.string x.f1, .bool x.f2, .int .i64 x.f3], rfl, rfl, ⟨[.string x.f1], [.bool x.f2, .int .i64 x.f3], rfl, rfl, ⟨[.bool x.f2], [.int .i64 x.f3], rfl, rfl, rfl⟩⟩⟩
def rd_T30 (xs : List S30) (i : Int) : S30 := xs.getD i.toNat z30
theorem at_T30 {w : World} {A : Option Addr} {n : Nat} {xs : List S30} (h : Kd.C k30 w A n xs) (i : Int) (h0 : 0 ≤ i) (h1 : i < n) : ∃ ad , A = some ad ∧ w.cell? (ad.add (i.toNat * 4)) = some (.int .i64 (rd_T30 xs i).f0) ∧ w.cell? ⟨(ad.add (i.toNat * 4)).block, (ad.add (i.toNat * 4)).off + 1, none⟩ = some (.string (rd_T30 xs i).f1) ∧ w.cell? ⟨(ad.add (i.toNat * 4)).block, (ad.add (i.toNat * 4)).off + 2, none⟩ = some (.bool (rd_T30 xs i).f2) ∧ w.cell? ⟨(ad.add (i.toNat * 4)).block, (ad.add (i.toNat * 4)).off + 3, none⟩ = some (.int .i64 (rd_T30 xs i).f3) := by
  obtain ⟨ad, c, e, _, hK, hc0⟩ := Kd.C_get h z30 i h0 h1
  have hc : ∀ j u, c[j]? = some u → w.cell? (ad.add (i.toNat * 4 + j)) = some u := hc0
  obtain rfl := k30_open hK
  exact ⟨ad, e, hc 0 _ rfl, by rw [← add_field _ _ 1 (by omega)]; exact hc 1 _ rfl, by rw [← add_field _ _ 2 (by omega)]; exact hc 2 _ rfl, by rw [← add_field _ _ 3 (by omega)]; exact hc 3 _ rfl⟩

/-! #### struct type 32 -/
structure S32 where
  f0 : S30
  f1 : Bool
  f2 : Int
def z32 : S32 := ⟨z30, false, (0 : Int)⟩
def k32 : Kd S32 := Kd.iso (Kd.pair k30 (Kd.pair Kd.bool (Kd.int .i64))) (fun x : S32 => (x.f0, x.f1, x.f2))
theorem k32_open {w : World} {x : S32} {cs : List Value} (h : k32.K w x cs) : cs = [.int .i64 x.f0.f0, .string x.f0.f1, .bool x.f0.f2, .int .i64 x.f0.f3, .bool x.f1, .int .i64 x.f2] := by
  obtain ⟨_, _, rfl, s0, ⟨_, _, rfl, rfl, rfl⟩⟩ := h
  obtain rfl := k30_open s0
  exact rfl
theorem k32_openM {w : World} {base : Nat} {ok : Nat → Prop} {x : S32} {cs : List Value} (h : k32.M w base ok x cs) : cs = [.int .i64 x.f0.f0, .string x.f0.f1, .bool x.f0.f2, .int .i64 x.f0.f3, .bool x.f1, .int .i64 x.f2] := by
  obtain ⟨_, _, rfl, s0, ⟨_, _, rfl, rfl, rfl⟩⟩ := h
  obtain rfl := k30_openM s0
  exact rfl
theorem k32_mk (w : World) (x : S32)  : k32.K w x [.int .i64 x.f0.f0, .string x.f0.f1, .bool x.f0.f2, .int .i64 x.f0.f3, .bool x.f1, .int .i64 x.f2] := ⟨[.int .i64 x.f0.f0, .string x.f0.f1, .bool x.f0.f2, .int .i64 x.f0.f3], [.bool x.f1, .int .i64 x.f2], rfl, (k30_mk w x.f0 ), ⟨[.bool x.f1], [.int .i64 x.f2], rfl, rfl, rfl⟩⟩
theorem k32_mkM (w : World) (base : Nat) (ok : Nat → Prop) (x : S32)  : k32.M w base ok x [.int .i64 x.f0.f0, .string x.f0.f1, .bool x.f0.f2, .int .i64 x.f0.f3, .bool x.f1, .int .i64 x.f2] := ⟨[.int .i64 x.f0.f0, .string x.f0.f1, .bool x.f0.f2, .int .i64 x.f0.f3], [.bool x.f1, .int .i64 x.f2], rfl, (k30_mkM w base ok x.f0 ), ⟨[.bool x.f1], [.int .i64 x.f2], rfl, rfl, rfl⟩⟩
def rd_T32 (xs : List S32) (i : Int) : S32 := xs.getD i.toNat z32
theorem at_T32 {w : World} {A : Option Addr} {n : Nat} {xs : List S32} (h : Kd.C k32 w A n xs) (i : Int) (h0 : 0 ≤ i) (h1 : i < n) : ∃ ad , A = some ad ∧ w.cell? (ad.add (i.toNat * 6)) = some (.int .i64 (rd_T32 xs i).f0.f0) ∧ w.cell? ⟨(ad.add (i.toNat * 6)).block, (ad.add (i.toNat * 6)).off + 1, none⟩ = some (.string (rd_T32 xs i).f0.f1) ∧ w.cell? ⟨(ad.add (i.toNat * 6)).block, (ad.add (i.toNat * 6)).off + 2, none⟩ = some (.bool (rd_T32 xs i).f0.f2) ∧ w.cell? ⟨(ad.add (i.toNat * 6)).block, (ad.add (i.toNat * 6)).off + 3, none⟩ = some (.int .i64 (rd_T32 xs i).f0.f3) ∧ w.cell? ⟨(ad.add (i.toNat * 6)).block, (ad.add (i.toNat * 6)).off + 4, none⟩ = some (.bool (rd_T32 xs i).f1) ∧ w.cell? ⟨(ad.add (i.toNat * 6)).block, (ad.add (i.toNat * 6)).off + 5, none⟩ = some (.int .i64 (rd_T32 xs i).f2) := by
  obtain ⟨ad, c, e, _, hK, hc0⟩ := Kd.C_get h z32 i h0 h1
  have hc : ∀ j u, c[j]? = some u → w.cell? (ad.add (i.toNat * 6 + j)) = some u := hc0
  obtain rfl := k32_open hK
  exact ⟨ad, e, hc 0 _ rfl, by rw [← add_field _ _ 1 (by omega)]; exact hc 1 _ rfl, by rw [← add_field _ _ 2 (by omega)]; exact hc 2 _ rfl, by rw [← add_field _ _ 3 (by omega)]; exact hc 3 _ rfl, by rw [← add_field _ _ 4 (by omega)]; exact hc 4 _ rfl, by rw [← add_field _ _ 5 (by omega)]; exact hc 5 _ rfl⟩

end Go.Proofs.YthjddnmfpdcjnaaDoor.PSp
