/- Rules for remainders; facts of the program's tables that the laws over any text use. -/
import Derived.Test.YthjddnmfpdcjnaaDoorLawL
set_option linter.unusedVariables false
namespace Go.Rx
open Go.RowKit
section
variable {X : Cx} {P : Program} {f : Fr} {m : Mem} {d : Option Tmp} {ty : TypeId} {pos : String} {af : Array Edge} {gd : Option (Nat × Bool)}
theorem yrem {x y : Operand} {k : IntKind} {i j c : Int} {t t' : TypeId} (hx : evF f x = some (.int k i)) (hy : evF f y = some (.int k j)) (h0 : j ≠ 0) (hc : i.tmod j = c) : Yl X P f m ⟨d, .binOp .rem t x y t', ty, pos, af, gd⟩ (.int k c) := .of fun a w s => by
  subst hc
  simp [execOp, s.agr.eval hx, s.agr.eval hy, binOp, Op.intDiv, eqG, h0]
end
end Go.Rx
namespace Go.Proofs.YthjddnmfpdcjnaaDoor.LawE
open Go.Rx hiding bt
open Go.RowKit Go.Proofs.YthjddnmfpdcjnaaDoorW.PrintWords Go.Proofs.YthjddnmfpdcjnaaDoor.Lib0 Go.Proofs.YthjddnmfpdcjnaaDoor.TxtA Go.Proofs.YthjddnmfpdcjnaaDoor.TagV
theorem und5s : (Tryd.prog.underlying 5).isSome = true := by kernel_rfl
theorem und3i : Tryd.prog.underlying 3 = some (.int .i64) := by kernel_rfl
theorem rem20 {a : Int} (h : 0 ≤ a) : a.tmod 20 = (((a % 20).toNat : Nat) : Int) := by
  rw [Int.tmod_eq_emod_of_nonneg h]; omega
theorem wrap20 (n : Nat) (h : n < 20) : IntKind.i64.wrap ((n : Nat) : Int) = ((n : Nat) : Int) := i64_in (by omega) (by omega)
theorem vw_left {s a b : ByteArray} (h : s = a ++ b) : Vw a s a.size 0 := by
  have hz : s.size = a.size + b.size := by rw [h, ByteArray.size_append]
  exact ⟨Nat.le_refl _, by omega, fun j hj => by rw [h, Nat.add_zero, bt_app_left _ _ _ (by omega) (by omega)]⟩
theorem vw_right {s a b : ByteArray} (h : s = a ++ b) : Vw b s b.size a.size := by
  have hz : s.size = a.size + b.size := by rw [h, ByteArray.size_append]
  exact ⟨Nat.le_refl _, by omega, fun j hj => by
    rw [h, bt_app_right _ _ _ (by omega)]
    congr 1; omega⟩
end Go.Proofs.YthjddnmfpdcjnaaDoor.LawE
