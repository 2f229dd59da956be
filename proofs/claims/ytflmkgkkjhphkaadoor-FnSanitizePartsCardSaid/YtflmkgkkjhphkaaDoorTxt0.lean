/- Texts in plain words: what a text has, begins with; bytes of ASCII. No program. -/
import Derived.Test.YtflmkgkkjhphkaaDoorDec0
import Derived.Laws.Entries
set_option linter.unusedVariables false
namespace Go.Proofs.YtflmkgkkjhphkaaDoor.Txt0
open Go Go.Lib Go.Proofs.YtflmkgkkjhphkaaDoor.Dec0
/-- Whether a text has another one. -/
def hasT (x : T) : T → Bool
  | [] => x.isEmpty
  | c :: r => x.isPrefixOf (c :: r) || hasT x r
theorem hasT_short (x : T) : ∀ l : T, l.length < x.length → hasT x l = false
  | [], h => by cases x with
    | nil => simp at h
    | cons a b => rfl
  | c :: r, h => by
    rw [hasT, hasT_short x r (by simp at h; omega), Bool.or_false]
    cases hp : x.isPrefixOf (c :: r) with
    | false => rfl
    | true =>
      have := (List.isPrefixOf_iff_prefix.1 hp).length_le
      simp at h this
      omega
theorem hasT_drop (x l : T) (hx : x ≠ []) : hasT x l = (x.isPrefixOf l || hasT x (l.drop 1)) := by
  cases l with
  | nil =>
    cases x with
    | nil => exact absurd rfl hx
    | cons a b => rfl
  | cons c r => rfl
theorem pre_take {x l : T} : x.isPrefixOf l = decide (l.take x.length = x) := by
  rw [Bool.eq_iff_iff, decide_eq_true_eq, List.isPrefixOf_iff_prefix]
  exact ⟨fun h => (List.prefix_iff_eq_take.1 h).symm, fun h => h ▸ List.take_prefix _ _⟩
theorem data_inj {a b : ByteArray} : a = b ↔ a.data.toList = b.data.toList := by
  constructor
  · rintro rfl; rfl
  · intro h
    cases a; cases b
    simp at h
    rw [h]
theorem ext_list (s : ByteArray) (a b : Nat) : (s.extract a b).data.toList = (s.data.toList.drop a).take (b - a) := by
  simp [List.drop_take]
theorem size_list (s : ByteArray) : s.data.toList.length = s.size := by rw [Array.length_toList]; rfl
/-- A piece of a text against another one. -/
theorem piece_eq (s x : ByteArray) (j k : Nat) (hk : k = j + x.size) : decide (s.extract j k = x) = x.data.toList.isPrefixOf (s.data.toList.drop j) := by
  subst hk
  rw [pre_take]
  congr 1
  rw [data_inj, ext_list, size_list, show j + x.size - j = x.size by omega]
theorem app_list (a b : ByteArray) : (a ++ b).data.toList = a.data.toList ++ b.data.toList := by simp
def isLet (c : UInt8) : Bool := decide (65 ≤ c.toNat) && decide (c.toNat ≤ 90) || decide (97 ≤ c.toNat) && decide (c.toNat ≤ 122)
theorem or_let : ∀ k : Fin 256, (decide (bits .or .u8 ((k.val : Nat) : Int) 32 < 97) || decide (122 < bits .or .u8 ((k.val : Nat) : Int) 32)) = !(decide (65 ≤ k.val) && decide (k.val ≤ 90) || decide (97 ≤ k.val) && decide (k.val ≤ 122)) := by decide +kernel
def isAsc (c : UInt8) : Bool := decide (c.toNat ≤ 126) && (decide (32 ≤ c.toNat) || c.toNat == 10 || c.toNat == 9)
end Go.Proofs.YtflmkgkkjhphkaaDoor.Txt0
