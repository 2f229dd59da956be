/- FnFieldsJoined: for every input the law returns true, and each argument reads behind the call as it read before. No condition. -/
import Derived.Test.YtelijbnnhgmklaaRows
import Derived.Test.YtelijbnnhgmklaaPFnFieldsJoinedx
import Derived.Test.YtelijbnnhgmklaaPureFnFieldsJoined
import Derived.Test.YtelijbnnhgmklaaRow0
import Derived.WalkKit
import Derived.ProofKit
import Derived.OpenShut
import Derived.ShutString
import Derived.ChangeOld
import Derived.Below
import Derived.SizedLaws
import Derived.Carry
namespace Go.Proofs.Ytelijbnnhgmklaa.fnFieldsJoined
open Go.ChangeShapes Go.WideShapes Go.ChangeAt Go.RowKit Go.Proofs.Ytelijbnnhgmklaa.Row0 Go.Proofs.YtelijbnnhgmklaaW.PrintWords
open Go.ChangeMaps (open_string shut_string)
set_option linter.unusedVariables false
theorem own : ownKnob Try.prog.godebug = none := by kernel_rfl
theorem laidOut : laidOutB Try.prog = true := by kernel_rfl
set_option maxRecDepth 100000 in
theorem lifted (os : Os) (started : os.Started) (H : Type) (enc : TypeId × Value → H) :
    ReturnsInHanded {} Try.checked os 9 .any (Rows.fnFieldsJoinedSpec.pre6 enc Try.prog Try.f9 Rows.fnFieldsJoinedRow.domain false) (Rows.fnFieldsJoinedSpec.post enc Try.prog Try.f9 false true false false) := by
  refine returnsInHanded_of_change_sized (C := Try.checked) own started (by kernel_rfl) Try.func9
    (ChangeSpec.witness6 (enc := enc) (C := Try.checked) false ⟨#[], #[.slice none 0 0, .slice none 0 0], []⟩ 8 (by kernel_rfl) (by kernel_rfl) (by kernel_rfl) (by kernel_rfl)) ?_
  intro W base args ds gs before hval0 hW hcnd hsz0 _
  have hsz : (DataW.weightsEach Try.prog (Try.f9.params.toList ++ Rows.fnFieldsJoinedSpec.plain.varTypes Try.prog) (ds ++ gs)).all (· ≤ reachBytes) = true := hsz0
  have hval : ∀ (j : Nat) t v, Try.f9.params[j]? = some t → args[j]? = some v → Value.okWide Try.prog W .any base t v := hval0
  have hW' := hW
  obtain ⟨p, q, hA0, hV, rfl, hfz, hnd⟩ := hW
  have hA : DataW.TrodAll enc Try.prog W 0 (fun _ => true) true Try.f9.params.toList args.toList ds p := hA0
  rw [Try.params9] at hA hval hsz
  obtain ⟨v0, vs0, d0, ds0, p0, q0, hargs, rfl, rfl, h0, r0⟩ := trodAll_cons hA
  obtain ⟨v1, vs1, d1, ds1, p1, q1, rfl, rfl, rfl, h1, r1⟩ := trodAll_cons r0
  obtain ⟨rfl, rfl, rfl⟩ := trodAll_nil r1
  obtain rfl : args = #[v0, v1] := by cases args; simp_all
  obtain ⟨rfl, rfl⟩ := trodVars_none hV
  obtain ⟨a0, len0, cap0, rfl⟩ := okWide_slice Try.underlying24 (hval 0 24 v0 rfl rfl)
  have k0 := h0
  have lt0 : ∀ x ∈ p0, x.block < W.heap.size := by obtain ⟨m, hm⟩ := k0; exact DataW.trod_lt m _ _ _ hm
  have w0 : len0 ≤ 8796093022208 := sized_strs hsz (j := 0) (t := 24) (e := 9) rfl rfl Try.underlying24 Try.underlying9 (by kernel_rfl) (by kernel_rfl) h0
  obtain ⟨l0, rfl, hc0, hr0⟩ := open_strs (e := 9) Try.underlying24 Try.underlying9 (by kernel_rfl) h0
  obtain ⟨a1, len1, cap1, rfl⟩ := okWide_slice Try.underlying31 (hval 1 31 v1 rfl rfl)
  have k1 := h1
  have lt1 : ∀ x ∈ p1, x.block < W.heap.size := by obtain ⟨m, hm⟩ := k1; exact DataW.trod_lt m _ _ _ hm
  have w1 : len1 * 1 ≤ 140737488351232 := sized_ints hsz (j := 1) (t := 31) (e := 5) rfl rfl Try.underlying31 Try.underlying5 (by kernel_rfl) (by kernel_rfl) h1
  obtain ⟨l1, rfl, hc1, hr1, hb1⟩ := open_u8s (e := 5) Try.underlying31 Try.underlying5 (by kernel_rfl) h1
  clear hA0 hval0 hsz0 hsz
  obtain ⟨k, hp⟩ := Pure.FnFieldsJoined l0 l1 w0 (by omega) hb1
  refine (PFnFieldsJoined.laws_FnFieldsJoined.calls k a0 cap0 l0 a1 cap1 l1 true W hr0 hc0 hr1 hc1 hp).mono fun e W' ⟨he, bel0⟩ => ?_
  have bel : Below W.heap.size W W' := bel0
  subst he
  exact ⟨_, rfl, _, _, _, [], _, [], hW', trodAll_mk1 (shut_bool Try.underlying4 _), (trodAll_cons_mk (Below.trod laidOut (by kernel_rfl) (of_decide_eq_true (by kernel_rfl)) k0 bel lt0) (trodAll_cons_mk (Below.trod laidOut (by kernel_rfl) (of_decide_eq_true (by kernel_rfl)) k1 bel lt1) trodAll_mk0)), rfl, bel.frame _, fun h => by cases h⟩
theorem over : Rows.fnFieldsJoinedRow.holds Try.pinned (OpenSpec.ofChange Rows.fnFieldsJoinedSpec) :=
  OpenClaim.holds_of_wide 9 Try.f9 rfl rfl rfl rfl rfl rfl rfl ⟨rfl, rfl, rfl, rfl, rfl⟩ rfl rfl rfl rfl rfl (by kernel_rfl) Try.func9 (by kernel_rfl)
    (of_decide_eq_true (by kernel_rfl)) (by unfold Func.isWrapper; first | (rw [if_pos (by decide +kernel)]; kernel_rfl) | (rw [if_neg (by decide +kernel)]; exact ⟨rfl, rfl⟩))
    (fun os started H enc _ => lifted os started H enc)
theorem proved : Rows.FnFieldsJoinedSaid := over
#print axioms proved
end Go.Proofs.Ytelijbnnhgmklaa.fnFieldsJoined
namespace Go.Proofs.Ytelijbnnhgmklaa
/-- The row, under a short name, for the claim. -/
theorem fnFieldsJoined_holds : Rows.FnFieldsJoinedSaid := fnFieldsJoined.proved
end Go.Proofs.Ytelijbnnhgmklaa
