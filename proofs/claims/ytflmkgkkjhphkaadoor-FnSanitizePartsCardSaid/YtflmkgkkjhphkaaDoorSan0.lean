/- Sanitized texts in plain words: which runes stay, where a hyphen comes. No program. -/
import Derived.Test.YtflmkgkkjhphkaaDoorDec0
import Derived.Lib.IsU
import Derived.Shelf.Unicode.IsSpaceAny
set_option linter.unusedVariables false
namespace Go.Proofs.YtflmkgkkjhphkaaDoor.San0
open Go Go.Lib Go.Proofs.YtflmkgkkjhphkaaDoor.Dec0
def sign (r : Int) : Bool := r == 46 || r == 47 || r == 92 || r == 95 || r == 35 || r == 43 || r == 126 || r == 45 || r == 64
def hexR (r : Int) : Bool := decide (48 ≤ r) && decide (r ≤ 57) || decide (97 ≤ r) && decide (r ≤ 102) || decide (65 ≤ r) && decide (r ≤ 70)
def hex2 : List Int → Bool
  | a :: b :: _ => hexR a && hexR b
  | _ => false
def ldm (c : Int) : Bool := isLetterU c || isDigitU c || isMarkU c
/-- Whether a rune stays: r is what follows it. -/
def stay (c : Int) (r : List Int) : Bool := ldm c || sign c || (c == 37 && hex2 r)
/-- As the program goes: whether a hyphen is due. -/
def sanI : List Int → Option Int → Bool → List Int
  | [], _, _ => []
  | c :: r, last, due => if stay c r = true then (if (due && c != 45) = true then 45 :: c :: sanI r (some c) false else c :: sanI r (some c) false) else sanI r last (due || (last.isSome && last != some 45 && isSpaceZ c))
/-- As the reference goes: whether white space stood since the last one. -/
def san : List Int → Option Int → Bool → List Int
  | [], _, _ => []
  | c :: r, last, sp => if stay c r = true then (if ((sp || isSpaceZ c) && last.isSome && last != some 45 && c != 45) = true then 45 :: c :: san r (some c) false else c :: san r (some c) false) else san r last (sp || isSpaceZ c)
def allStay : List Int → Bool
  | [] => true
  | c :: r => stay c r && allStay r

/-! ### white space is nothing that stays -/
def whites : List Nat := [9, 10, 11, 12, 13, 32, 133, 160, 5760, 8192, 8193, 8194, 8195, 8196, 8197, 8198, 8199, 8200, 8201, 8202, 8232, 8233, 8239, 8287, 12288]
theorem space_in {c : Int} (h : isSpaceZ c = true) : ∃ k ∈ whites, c = (k : Int) := by
  unfold isSpaceZ at h
  split at h
  · rename_i h0
    unfold isSpaceR at h
    refine ⟨c.toNat, ?_, by omega⟩
    generalize c.toNat = n at h
    simp only [Bool.or_eq_true, Bool.and_eq_true, decide_eq_true_eq, beq_iff_eq] at h
    simp only [whites, List.mem_cons, List.not_mem_nil, or_false]
    omega
  · cases h
theorem white_ldm : ∀ k ∈ whites, ldm (k : Int) = false := by decide +kernel
theorem white_sign : ∀ k ∈ whites, sign (k : Int) = false ∧ ((k : Int) == 37) = false := by decide
theorem space_stay {c : Int} (h : isSpaceZ c = true) (r : List Int) : stay c r = false := by
  obtain ⟨k, hk, rfl⟩ := space_in h
  unfold stay
  rw [white_ldm k hk, (white_sign k hk).1, (white_sign k hk).2]
  rfl
theorem san_eq : ∀ (l : List Int) (last : Option Int) (sp : Bool), sanI l last (sp && last.isSome && last != some 45) = san l last sp
  | [], _, _ => rfl
  | c :: r, last, sp => by
    unfold sanI san
    by_cases hs : stay c r = true
    · rw [if_pos hs, if_pos hs]
      have hw : isSpaceZ c = false := by
        cases h : isSpaceZ c
        · rfl
        · rw [space_stay h r] at hs; cases hs
      have ih := san_eq r (some c) false
      simp only [Bool.false_and] at ih
      rw [hw, Bool.or_false, ih]
    · rw [if_neg hs, if_neg hs, ← san_eq r last (sp || isSpaceZ c)]
      congr 1
      cases sp <;> cases isSpaceZ c <;> cases last.isSome <;> cases (last != some 45) <;> rfl

/-! ### runes of ASCII -/
theorem ldm_ascii : ∀ k : Fin 128, ldm ((k.val : Nat) : Int) = (decide (48 ≤ k.val) && decide (k.val ≤ 57) || decide (65 ≤ k.val) && decide (k.val ≤ 90) || decide (97 ≤ k.val) && decide (k.val ≤ 122)) := by decide +kernel
end Go.Proofs.YtflmkgkkjhphkaaDoor.San0
