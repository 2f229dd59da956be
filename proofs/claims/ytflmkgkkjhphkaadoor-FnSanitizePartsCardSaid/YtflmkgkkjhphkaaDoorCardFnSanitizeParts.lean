/- FnSanitizeParts: for every input the law returns true, and each argument reads behind the call as it read before. No condition. -/
import Derived.Test.YtflmkgkkjhphkaaDoorRows
import Derived.Test.YtflmkgkkjhphkaaDoorLawFnSanitizeParts
import Derived.Test.YtflmkgkkjhphkaaDoorPureFnSanitizeParts
import Derived.Test.YtflmkgkkjhphkaaDoorRow0
import Derived.WalkKit
import Derived.ProofKit
import Derived.OpenShut
import Derived.ShutString
import Derived.ChangeOld
import Derived.Below
import Derived.SizedLaws
import Derived.LaidMore
import Derived.Lay
import Derived.SevenTiedAt
import Derived.Stop.Joined
import Derived.Test.YtflmkgkkjhphkaaDoorTie
import Derived.Test.YtflmkgkkjhphkaaDoorCards
import Derived.Carry
namespace Go.Proofs.YtflmkgkkjhphkaaDoor.fnSanitizeParts
open Go.ChangeShapes Go.WideShapes Go.ChangeAt Go.RowKit Go.Proofs.YtflmkgkkjhphkaaDoor.Row0 Go.Proofs.YtflmkgkkjhphkaaDoorW.PrintWords
open Go.ChangeMaps (open_string shut_string)
set_option linter.unusedVariables false
theorem own : ownKnob Tryd.prog.godebug = none := by kernel_rfl
theorem laidOut : laidOutB Tryd.prog = true := by kernel_rfl
set_option maxRecDepth 100000 in
theorem lifted (os : Os) (started : os.Started) (H : Type) (enc : TypeId × Value → H) :
    ReturnsInHanded {} Tryd.checked os 5 .any (fun w args => (Rows.fnSanitizePartsSpec.pre enc Tryd.prog Tryd.f5 Rows.fnSanitizePartsRow.domain false w args ∧ laidMetH Tryd.prog Rows.fnSanitizePartsRow.laid w) ∧ sizedMet enc Tryd.prog Tryd.f5 (OpenSpec.ofChange Rows.fnSanitizePartsSpec) false w args) (Rows.fnSanitizePartsSpec.post enc Tryd.prog Tryd.f5 false true false false) := by
  refine returnsInHanded_of_change_and (C := Tryd.checked) (X := fun w _ => laidMetH Tryd.prog Rows.fnSanitizePartsRow.laid w) (fun _ _ _ hh h => h.of_heap hh) own started (by kernel_rfl) Tryd.func5
    (ChangeSpec.witness_shaped (enc := enc) (C := Tryd.checked) (os := os) (X := fun w _ => laidMetH Tryd.prog Rows.fnSanitizePartsRow.laid w) false (World.laidAll Tryd.prog os Rows.fnSanitizePartsRow.laid) #[.slice none 0 0] 8 (World.laidAll_os _ _ _)
      (World.shaped_of_ZipB (by kernel_rfl) (by kernel_rfl)) (by kernel_rfl) (by kernel_rfl) (by kernel_rfl)
      (by rw [MakeChecks.laidMetH_plain _ _ _ (by kernel_rfl)]; exact laidMet_laidAll _ (by kernel_rfl) (by kernel_rfl))) ?_
  intro W base args ds gs before hval0 hW hcnd hsz0 hL _
  have hsz : (DataW.weightsEach Tryd.prog (Tryd.f5.params.toList ++ Rows.fnSanitizePartsSpec.plain.varTypes Tryd.prog) (ds ++ gs)).all (· ≤ reachBytes) = true := hsz0
  have hval : ∀ (j : Nat) t v, Tryd.f5.params[j]? = some t → args[j]? = some v → Value.okWide Tryd.prog W .any base t v := hval0
  have hW' := hW
  obtain ⟨p, q, hA0, hV, rfl, hfz, hnd⟩ := hW
  have hA : DataW.TrodAll enc Tryd.prog W 0 (fun _ => true) true Tryd.f5.params.toList args.toList ds p := hA0
  rw [Tryd.params5] at hA hval hsz
  obtain ⟨v0, vs0, d0, ds0, p0, q0, hargs, rfl, rfl, h0, r0⟩ := trodAll_cons hA
  obtain ⟨rfl, rfl, rfl⟩ := trodAll_nil r0
  obtain rfl : args = #[v0] := by cases args; simp_all
  obtain ⟨rfl, rfl⟩ := trodVars_none hV
  obtain ⟨a0, len0, cap0, rfl⟩ := okWide_slice Tryd.underlying24 (hval 0 24 v0 rfl rfl)
  have k0 := h0
  have lt0 : ∀ x ∈ p0, x.block < W.heap.size := by obtain ⟨m, hm⟩ := k0; exact DataW.trod_lt m _ _ _ hm
  have w0 : len0 ≤ 8796093022208 := sized_strs hsz (j := 0) (t := 24) (e := 9) rfl rfl Tryd.underlying24 Tryd.underlying9 (by kernel_rfl) (by kernel_rfl) h0
  obtain ⟨l0, rfl, hc0, hr0⟩ := open_strs (e := 9) Tryd.underlying24 Tryd.underlying9 (by kernel_rfl) h0
  clear hA0 hval0 hsz0 hsz
  have hp := Pure.FnSanitizeParts W hL l0 w0
  refine (PFnSanitizeParts.laws_FnSanitizeParts.calls a0 cap0 l0 true W hr0 hc0 hp).mono fun e W' ⟨he, bel0⟩ => ?_
  have bel : Below W.heap.size W W' := bel0
  subst he
  exact ⟨_, rfl, _, _, _, [], _, [], hW', trodAll_mk1 (shut_bool Tryd.underlying4 _), (trodAll_cons_mk (Below.trod laidOut (by kernel_rfl) (of_decide_eq_true (by kernel_rfl)) k0 bel lt0) trodAll_mk0), rfl, bel.frame _, fun h => by cases h⟩
theorem over : Rows.fnSanitizePartsRow.holds Tryd.pinned (OpenSpec.ofChange Rows.fnSanitizePartsSpec) :=
  OpenClaim.holds_of_wide 5 Tryd.f5 rfl rfl rfl rfl rfl rfl rfl ⟨rfl, rfl, rfl, rfl, rfl⟩ rfl rfl rfl rfl rfl (by kernel_rfl) Tryd.func5 (by kernel_rfl)
    (of_decide_eq_true (by kernel_rfl)) (by unfold Func.isWrapper; first | (rw [if_pos (by decide +kernel)]; kernel_rfl) | (rw [if_neg (by decide +kernel)]; exact ⟨rfl, rfl⟩))
    (fun os started H enc _ => lifted os started H enc)
theorem proved : Rows.FnSanitizePartsSaid := over
#print axioms proved
end Go.Proofs.YtflmkgkkjhphkaaDoor.fnSanitizeParts
namespace Go.Proofs.YtflmkgkkjhphkaaDoor
/-- The row, under a short name, for the claim. -/
theorem fnSanitizeParts_holds : Rows.FnSanitizePartsSaid := fnSanitizeParts.proved
end Go.Proofs.YtflmkgkkjhphkaaDoor
namespace Go.Proofs.YtflmkgkkjhphkaaDoor
/-- The card: the row, its listed variables tied to the program's text. -/
theorem fnSanitizeParts_card : Rows.FnSanitizePartsCardSaid :=
  Claim7.holds_tied_plain_at .later [] [.listed, .data, .pinned, .pinned, .pinned] true (true, "e7877fca1ca9b90f636aa2d41db55c9be33af5ed36798623a7f80a9309d10632") false fnSanitizeParts_holds (fun _ h => by cases h) (by kernel_rfl) (fun _ h => by cases h) fnSanitizeParts_row_tie rfl ⟨rfl, rfl⟩ (by kernel_rfl) rfl
    (fun f fn hf hfn => by
      obtain rfl : f = 5 := Option.some.inj ((show Tryd.prog.funcNamed "pub-quirehand/laws.FnSanitizeParts" = some 5 by kernel_rfl).symm.trans hf) |>.symm
      obtain rfl : fn = Tryd.f5 := (Option.some.inj (Tryd.func5.symm.trans hfn)).symm
      exact ⟨by kernel_rfl, fun j t ht => by
        rw [Tryd.params5] at ht
        have hm : t ∈ [24] := by simpa using Array.mem_of_getElem? ht
        have hall : ([24].all fun u => !Tryd.prog.wantsStandIn u) = true := by kernel_rfl
        exact (show Tryd.prog.wantsStandIn t = false by simpa using List.all_eq_true.1 hall t hm)⟩)
    (by kernel_rfl)
#print axioms fnSanitizeParts_card
end Go.Proofs.YtflmkgkkjhphkaaDoor
