/- The small logic's rules for slices made whole and for elements of known blocks; for every program. -/
import Derived.Test.YthjddnmfpdcjnaaDoorRxF
import Derived.Laws.MakeOwn
import Derived.Laws.OwnMore
set_option linter.unusedVariables false
set_option linter.unusedSimpArgs false
namespace Go.Rx
open Go.RowKit

section
variable {X : Cx} {P : Program} {f : Fr} {m : Mem} {d : Option Tmp} {ty : TypeId} {pos : String} {af : Array Edge} {gd : Option (Nat × Bool)}
variable {ops : Array Oper} {Q : Exit → Act → World → Prop} {K : Act → World → Prop} {rest : List Oper}

/-- The address of an element of a known block. -/
theorem yatb {x y : Operand} {g o o' n c z : Nat} {k : IntKind} {i : Int} {t e : TypeId} (hx : evF f x = some (.slice (some ⟨g, o, none⟩) n c)) (hy : evF f y = some (.int k i)) (ht : P.underlying t = some (.slice e)) (hz : szB P e z = true) (h0 : 0 ≤ i) (h1 : i < n) (ho : o + i.toNat * z = o') :
    Yl X P f m ⟨d, .indexAddr t x y, ty, pos, af, gd⟩ (.pointer (some ⟨g, o', none⟩)) := by
  subst ho
  have : (⟨g, o, none⟩ : Addr).add (i.toNat * z) = ⟨g, o + i.toNat * z, none⟩ := by unfold Addr.add; split <;> simp_all
  exact yat hx hy ht hz h0 h1 this

theorem made_list (zs : List Value) (h : 0 < zs.length) (n : Nat) : (madeCells zs.toArray (n * zs.length)).toList = (List.replicate n zs).flatten := by
  apply List.ext_getElem?
  intro j
  by_cases hj : j < n * zs.length
  · have h1 : (madeCells zs.toArray (n * zs.length)).toList[j]? = zs[j % zs.length]? := by
      unfold madeCells
      have hm : j % zs.length < zs.length := Nat.mod_lt _ h
      simp [hj, hm]
    rw [h1]
    clear h1
    induction n generalizing j with
    | zero => omega
    | succ n ih =>
      rw [List.replicate_succ, List.flatten_cons]
      by_cases hlt : j < zs.length
      · rw [List.getElem?_append_left hlt, Nat.mod_eq_of_lt hlt]
      · rw [List.getElem?_append_right (by omega), ← ih (j - zs.length) (by rw [Nat.add_mul] at hj; omega), Nat.mod_eq_sub_mod (by omega)]
  · rw [List.getElem?_eq_none (by unfold madeCells; simp; omega), List.getElem?_eq_none (by simp; omega)]
/-- A slice made whole. -/
theorem jmake {dd : Nat} {x y : Operand} {t e size bytes n : Nat} {k k' : IntKind} {zs : List Value} (hx : evF f x = some (.int k (n : Int))) (hy : evF f y = some (.int k' (n : Int))) (hg : growB P t e size bytes = true) (hz : ((P.info? e).bind (·.zero)).map (·.cells) = some zs.toArray) (h0 : Nat.blt 0 size = true)
    (hb : bytes * n ≤ 281474976710656) (h63 : n ≤ 4294967296) (hd : Nat.blt dd X.n = true)
    (h : ∀ g, X.w0.heap.size ≤ g → J false X P ops Q K rest ((dd, .slice (some ⟨g, 0, none⟩) n n) :: f) ((g, (List.replicate n zs).flatten, e) :: m)) : J false X P ops Q K (⟨some dd, .makeSlice t x y, ty, pos, af, none⟩ :: rest) f m := by
  refine jeff (ι := Nat) (v := fun g => .slice (some ⟨g, 0, none⟩) n n) (m' := fun g => (g, (List.replicate n zs).flatten, e) :: m) (fun g => X.w0.heap.size ≤ g) rfl hd (fun a w st => ⟨w.heap.size, w.alloc (.cells (List.replicate n zs).flatten.toArray e), .inl ?_, st.has.push _ _, st.evo.push _, st.evo.size⟩) (fun g hg => h g hg)
  obtain ⟨hu, inf, z, q1, q2, q3, q4, q5⟩ := growB_eq hg
  have hzc : z.cells = zs.toArray := by
    rw [q1] at hz
    simp only [Option.bind_some, q2, Option.map_some, Option.some.injEq] at hz
    exact hz
  have hl : zs.length = size := by rw [hzc, List.size_toArray] at q5; exact q5
  have h0' : 0 < size := Nat.blt_eq.mp h0
  have := run_make (P := P) w t e inf z hu q1 q2 k k' (n : Int) (n : Int) (by omega) (Int.le_refl _) (by rw [q4, ← Int.natCast_mul]; omega) (by omega)
  rw [hzc, q3, ← hl] at this
  have hm : madeCells zs.toArray (n * zs.length) = (List.replicate n zs).flatten.toArray := by
    rw [← made_list zs (by omega) n]
  simp only [Int.toNat_natCast] at this
  rw [hm] at this
  simp only [execOp, st.agr.eval hx, st.agr.eval hy, Sem.run_bind, this]
  rfl
end
end Go.Rx
