/- The small logic's rules for strings joined and compared; for every program. -/
import Derived.Test.YthjddnmfpdcjnaaDoorRxG
set_option linter.unusedVariables false
set_option linter.unusedSimpArgs false
namespace Go.Rx
open Go.RowKit

section
variable {X : Cx} {P : Program} {f : Fr} {m : Mem} {ty : TypeId} {pos : String} {af : Array Edge} {gd : Option (Nat × Bool)}
variable {qt : Bool} {ops : Array Oper} {Q : Exit → Act → World → Prop} {K : Act → World → Prop} {rest : List Oper}

theorem eqGS (op : BinOp) (t : TypeId) (x y : Operand) (a b : ByteArray) : eqGuard op t x y (.string a) (.string b) = pure () := by cases op <;> rfl
theorem str_eq (a b : ByteArray) : (a.toList == b.toList) = decide (a = b) := by
  by_cases h : a = b
  · subst h; simp
  · have : ¬ a.toList = b.toList := fun e => h (by
      apply ByteArray.ext
      apply Array.toList_inj.1
      rw [← ByteArray.toList_eq, ← ByteArray.toList_eq, e])
    simp [h, this]
theorem ysadd {d : Option Tmp} {x y : Operand} {a b c : ByteArray} {t t' : TypeId} (hx : evF f x = some (.string a)) (hy : evF f y = some (.string b)) (hl : a.size + b.size ≤ 9223372036854775807) (hc : a ++ b = c) : Yl X P f m ⟨d, .binOp .add t x y t', ty, pos, af, gd⟩ (.string c) := .of fun ac w s => by
  subst hc
  have h1 : ¬ (((a.size + b.size : Nat) : Int) > IntKind.i64.max) := by
    have : IntKind.i64.max = 9223372036854775807 := by rfl
    rw [this]; omega
  simp only [execOp, s.agr.eval hx, s.agr.eval hy, binOp, eqGS, Op.stringOp, if_neg h1]
  rfl
theorem yseql {d : Option Tmp} {x y : Operand} {a b : ByteArray} {c : Bool} {t t' : TypeId} (hx : evF f x = some (.string a)) (hy : evF f y = some (.string b)) (hc : decide (a = b) = c) : Yl X P f m ⟨d, .binOp .eql t x y t', ty, pos, af, gd⟩ (.bool c) := .of fun ac w s => by
  subst hc
  simp only [execOp, s.agr.eval hx, s.agr.eval hy, binOp, eqGS, Op.stringOp, str_eq]
  rfl
theorem ysneq {d : Option Tmp} {x y : Operand} {a b : ByteArray} {c : Bool} {t t' : TypeId} (hx : evF f x = some (.string a)) (hy : evF f y = some (.string b)) (hc : decide (a ≠ b) = c) : Yl X P f m ⟨d, .binOp .neq t x y t', ty, pos, af, gd⟩ (.bool c) := .of fun ac w s => by
  subst hc
  simp only [execOp, s.agr.eval hx, s.agr.eval hy, binOp, eqGS, Op.stringOp, str_eq]
  simp
theorem jseql {d : Nat} {x y : Operand} {a b : ByteArray} {t t' : TypeId} (hx : evF f x = some (.string a)) (hy : evF f y = some (.string b)) (hw : wantedF ops f ⟨some d, .binOp .eql t x y t', ty, pos, af, gd⟩ = some true) (hd : Nat.blt d X.n = true)
    (h1 : a = b → J qt X P ops Q K rest ((d, .bool true) :: f) m) (h0 : ¬ a = b → J qt X P ops Q K rest ((d, .bool false) :: f) m) : J qt X P ops Q K (⟨some d, .binOp .eql t x y t', ty, pos, af, gd⟩ :: rest) f m := by
  by_cases h : a = b
  · exact jy (yseql hx hy (decide_eq_true h)) hw hd (h1 h)
  · exact jy (yseql hx hy (decide_eq_false h)) hw hd (h0 h)
theorem jsneq {d : Nat} {x y : Operand} {a b : ByteArray} {t t' : TypeId} (hx : evF f x = some (.string a)) (hy : evF f y = some (.string b)) (hw : wantedF ops f ⟨some d, .binOp .neq t x y t', ty, pos, af, gd⟩ = some true) (hd : Nat.blt d X.n = true)
    (h1 : ¬ a = b → J qt X P ops Q K rest ((d, .bool true) :: f) m) (h0 : a = b → J qt X P ops Q K rest ((d, .bool false) :: f) m) : J qt X P ops Q K (⟨some d, .binOp .neq t x y t', ty, pos, af, gd⟩ :: rest) f m := by
  by_cases h : a = b
  · exact jy (ysneq hx hy (decide_eq_false (by simpa using h))) hw hd (h0 h)
  · exact jy (ysneq hx hy (decide_eq_true h)) hw hd (h1 h)
end
end Go.Rx
