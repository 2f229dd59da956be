/- What FieldsSlash answers: the library's pieces between slashes, for every text shorter than 2^32 bytes. -/
import Derived.Test.YtelijbnnhgmklaaShelfFields
import Derived.Test.YtelijbnnhgmklaaWMore
import Derived.Deep.QuietTactic
import Derived.BigQuiet
import Derived.Deep.DeepFit
import Derived.Lib.Hide
namespace Go.Proofs.Ytelijbnnhgmklaa
open Go.RowKit Go.Lib Go.Proofs.YtelijbnnhgmklaaW.PrintWords

def isSl (x : Nat) : Bool := decide ((x : Int) = 47)

theorem slashFunc_any (x : Nat) (W : World) : Calls Try.prog 40 #[.int .i32 (x : Int)] W fun e w' => e = .returned (.bool (isSl x)) ∧ w' = W := by
  go_enter Try.func40, Try.ntmps40
  go_wp2
  go_ret
  exact ⟨by unfold isSl; first | rfl | (congr 1; simp [beq_eq_decide]), rfl⟩

theorem slashFunc_pays (w : World) : PredAtRunes Try.prog 40 #[] isSl w := by
  intro W x hx hb
  unfold FnGives
  refine (slashFunc_any x W).mono ?_
  rintro e w' ⟨rfl, rfl⟩
  exact ⟨rfl, 0, rfl⟩

def paths_FieldsSlash.f (a0 : ByteArray) : Option (List ByteArray) := if a0.size ≤ 4294967296 then some (Lib.goFieldsP isSl a0) else none

theorem enters_slash (args : Array Value) (w : World) : (callFunc 40 args).run Try.prog w = .ok (.enter 40 args) w := enters_of Try.func40 (by kernel_rfl) rfl args w

theorem paths_FieldsSlash.calls (a0 : ByteArray) (r : List ByteArray) (w : World) (h : paths_FieldsSlash.f a0 = some r) :
    Calls Try.prog 35 #[.string a0] w fun e w' => ∃ v0_ : Value, e = .returned (v0_) ∧ Kd.R Kd.string 9 w' w.heap.size (fun _ => True) v0_ r ∧ Below w.heap.size w w' := by
  unfold paths_FieldsSlash.f at h
  split at h
  · rename_i hs
    cases h
    have hp := slashFunc_pays w
    have HP := Lib.hid hp
    clear hp
    have HS := Lib.hid hs
    clear hs
    go_enter Try.func35, Try.ntmps35
    go_wp2_with (go_at_call 39; refine (Try.strings_FieldsFunc_runes 40 #[] enters_slash isSl a0 _ HS.out HP.out).mono ?_; rintro e w' ⟨A, rfl, hA, ho, hb⟩; have HO := Aside0.mk ho; have HB := Aside0.mk hb; clear ho hb hA)
    go_ret
    exact ⟨_, rfl, Kd.R_of_own HO.out (fun _ _ => trivial), HB.out⟩
  · cases h

end Go.Proofs.Ytelijbnnhgmklaa
