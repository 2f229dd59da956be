/- FnNamed: for every input the law returns true, and each argument reads behind the call as it read before. No condition. -/
import Derived.Test.YtkehggbmpdacpabGreatDoorRows
import Derived.Test.YtkehggbmpdacpabGreatDoorLawFnNamed
import Derived.Test.YtkehggbmpdacpabGreatDoorPureFnNamed
import Derived.WalkKit
import Derived.ProofKit
import Derived.OpenShut
import Derived.ShutString
import Derived.ChangeOld
import Derived.Below
import Derived.SizedLaws
import Derived.LaidMore
import Derived.Lay
import Derived.SevenTiedAt
import Derived.Stop.Joined
import Derived.Test.YtkehggbmpdacpabGreatDoorTie
import Derived.Test.YtkehggbmpdacpabGreatDoorCards
import Derived.Carry
import Derived.Test.YtkehggbmpdacpabGreatDoorKp15
set_option maxRecDepth 100000
set_option linter.unusedVariables false
set_option linter.unusedSimpArgs false
set_option linter.unusedSectionVars false
namespace Go.Proofs.YtkehggbmpdacpabGreatDoor.fnNamed
open Go.ChangeShapes Go.WideShapes Go.ChangeAt Go.RowKit Go.Proofs.YtkehggbmpdacpabGreatDoor.Row0 Go.Proofs.YtkehggbmpdacpabGreatDoorW.PrintWords
open Go.ChangeMaps (open_string shut_string)
theorem own : ownKnob Tryz.prog.godebug = none := by kernel_rfl
theorem laidOut : laidOutB Tryz.prog = true := by kernel_rfl
theorem lifted (os : Os) (started : os.Started) (H : Type) (enc : TypeId × Value → H) :
    ReturnsInHanded {} Tryz.checked os 12 .any (fun w args => (Rows.fnNamedSpec.pre enc Tryz.prog Tryz.f12 Rows.fnNamedRow.domain false w args ∧ laidMetH Tryz.prog Rows.fnNamedRow.laid w) ∧ sizedMet enc Tryz.prog Tryz.f12 (OpenSpec.ofChange Rows.fnNamedSpec) false w args) (Rows.fnNamedSpec.post enc Tryz.prog Tryz.f12 false true false false) := by
  refine returnsInHanded_of_change_and (C := Tryz.checked) (X := fun w _ => laidMetH Tryz.prog Rows.fnNamedRow.laid w) (fun _ _ _ hh h => h.of_heap hh) own started (by kernel_rfl) Tryz.func12
    (ChangeSpec.witness_shaped (enc := enc) (C := Tryz.checked) (os := os) (X := fun w _ => laidMetH Tryz.prog Rows.fnNamedRow.laid w) false (World.laidAll Tryz.prog os Rows.fnNamedRow.laid) #[.bool false, .string ByteArray.empty, .slice none 0 0, .slice none 0 0, .bool false] 8 (World.laidAll_os _ _ _)
      (World.shaped_of_ZipB (by kernel_rfl) (by kernel_rfl)) (by kernel_rfl) (by kernel_rfl) (by kernel_rfl)
      (by rw [MakeChecks.laidMetH_plain _ _ _ (by kernel_rfl)]; exact laidMet_laidAll _ (by kernel_rfl) (by kernel_rfl))) ?_
  intro W base args ds gs before hval0 hW hcnd hsz0 hL _
  have hsz : (DataW.weightsEach Tryz.prog (Tryz.f12.params.toList ++ Rows.fnNamedSpec.plain.varTypes Tryz.prog) (ds ++ gs)).all (· ≤ reachBytes) = true := hsz0
  have hval : ∀ (j : Nat) t v, Tryz.f12.params[j]? = some t → args[j]? = some v → Value.okWide Tryz.prog W .any base t v := hval0
  have hW' := hW
  obtain ⟨p, q, hA0, hV, rfl, hfz, hnd⟩ := hW
  have hA : DataW.TrodAll enc Tryz.prog W 0 (fun _ => true) true Tryz.f12.params.toList args.toList ds p := hA0
  rw [Tryz.params12] at hA hval hsz
  obtain ⟨v0, vs0, d0, ds0, p0, q0, hargs, rfl, rfl, h0, r0⟩ := trodAll_cons hA
  obtain ⟨v1, vs1, d1, ds1, p1, q1, rfl, rfl, rfl, h1, r1⟩ := trodAll_cons r0
  obtain ⟨v2, vs2, d2, ds2, p2, q2, rfl, rfl, rfl, h2, r2⟩ := trodAll_cons r1
  obtain ⟨v3, vs3, d3, ds3, p3, q3, rfl, rfl, rfl, h3, r3⟩ := trodAll_cons r2
  obtain ⟨v4, vs4, d4, ds4, p4, q4, rfl, rfl, rfl, h4, r4⟩ := trodAll_cons r3
  obtain ⟨rfl, rfl, rfl⟩ := trodAll_nil r4
  obtain rfl : args = #[v0, v1, v2, v3, v4] := by cases args; simp_all
  obtain ⟨rfl, rfl⟩ := trodVars_none hV
  obtain ⟨a0, rfl, rfl, rfl⟩ := open_bool Tryz.underlying4 (hval 0 4 v0 rfl rfl) h0
  obtain ⟨a1, rfl, rfl, rfl, y1⟩ := open_string Tryz.underlying9 (hval 1 9 v1 rfl rfl) h1
  have w1 : a1.size ≤ 140737488351232 := by
    have z := sized_string hsz (j := 1) (t := 9) rfl rfl
    rw [Array.length_toList] at z
    exact z
  obtain ⟨a2, len2, cap2, rfl⟩ := okWide_slice Tryz.underlying22 (hval 2 22 v2 rfl rfl)
  have k2 := h2
  have lt2 : ∀ x ∈ p2, x.block < W.heap.size := by obtain ⟨m, hm⟩ := k2; exact DataW.trod_lt m _ _ _ hm
  have w2 : len2 ≤ 8796093022208 := sized_strs hsz (j := 2) (t := 22) (e := 9) rfl rfl Tryz.underlying22 Tryz.underlying9 (by kernel_rfl) (by kernel_rfl) h2
  obtain ⟨l2, rfl, hc2, hr2⟩ := open_strs (e := 9) Tryz.underlying22 Tryz.underlying9 (by kernel_rfl) h2
  obtain ⟨a3, len3, cap3, rfl⟩ := okWide_slice Tryz.underlying22 (hval 3 22 v3 rfl rfl)
  have k3 := h3
  have lt3 : ∀ x ∈ p3, x.block < W.heap.size := by obtain ⟨m, hm⟩ := k3; exact DataW.trod_lt m _ _ _ hm
  have w3 : len3 ≤ 8796093022208 := sized_strs hsz (j := 3) (t := 22) (e := 9) rfl rfl Tryz.underlying22 Tryz.underlying9 (by kernel_rfl) (by kernel_rfl) h3
  obtain ⟨l3, rfl, hc3, hr3⟩ := open_strs (e := 9) Tryz.underlying22 Tryz.underlying9 (by kernel_rfl) h3
  obtain ⟨a4, rfl, rfl, rfl⟩ := open_bool Tryz.underlying4 (hval 4 4 v4 rfl rfl) h4
  clear hA0 hval0 hsz0 hsz
  have hp := Pure.FnNamed W hL a0 a1 l2 l3 a4 w1 w2 w3
  refine (PFnNamed.laws_FnNamed.calls a0 a1 a2 cap2 l2 a3 cap3 l3 a4 true W hr2 hc2 hr3 hc3 hp).mono fun e W' ⟨he, bel0⟩ => ?_
  have bel : Below W.heap.size W W' := bel0
  subst he
  exact ⟨_, rfl, _, _, _, [], _, [], hW', trodAll_mk1 (shut_bool Tryz.underlying4 _), (trodAll_cons_mk (shut_bool Tryz.underlying4 _) (trodAll_cons_mk (shut_string Tryz.underlying9 y1) (trodAll_cons_mk (Below.trod laidOut (by kernel_rfl) (of_decide_eq_true (by kernel_rfl)) k2 bel lt2) (trodAll_cons_mk (Below.trod laidOut (by kernel_rfl) (of_decide_eq_true (by kernel_rfl)) k3 bel lt3) (trodAll_cons_mk (shut_bool Tryz.underlying4 _) trodAll_mk0))))), rfl, bel.frame _, fun h => by cases h⟩
theorem over : Rows.fnNamedRow.holds Tryz.pinned (OpenSpec.ofChange Rows.fnNamedSpec) :=
  OpenClaim.holds_of_wide 12 Tryz.f12 rfl rfl rfl rfl rfl rfl rfl ⟨rfl, rfl, rfl, rfl, rfl⟩ rfl rfl rfl rfl rfl (by kernel_rfl) Tryz.func12 (by kernel_rfl)
    (of_decide_eq_true (by kernel_rfl)) (by unfold Func.isWrapper; first | (rw [if_pos (by decide +kernel)]; kernel_rfl) | (rw [if_neg (by decide +kernel)]; exact ⟨rfl, rfl⟩))
    (fun os started H enc _ => lifted os started H enc)
theorem proved : Rows.FnNamedSaid := over
#print axioms proved
end Go.Proofs.YtkehggbmpdacpabGreatDoor.fnNamed
namespace Go.Proofs.YtkehggbmpdacpabGreatDoor
theorem fnNamed_holds : Rows.FnNamedSaid := fnNamed.proved
end Go.Proofs.YtkehggbmpdacpabGreatDoor
namespace Go.Proofs.YtkehggbmpdacpabGreatDoor
theorem fnNamed_card : Rows.FnNamedCardSaid :=
  Claim7.holds_tied_plain_at .later [] [.data, .listed, .data, .sentinel, .data, .pinned, .pinned, .pinned] true (true, "e4fa89742c93cec316ff2390959f101d86751993b320d959617cf488055ef06b") false fnNamed_holds (fun _ h => by cases h) (by kernel_rfl) (fun _ h => by cases h) fnNamed_row_tie rfl ⟨rfl, rfl⟩ (by kernel_rfl) rfl
    (fun f fn hf hfn => by
      obtain rfl : f = 12 := Option.some.inj ((show Tryz.prog.funcNamed "pub-quirehand/laws.FnNamed" = some 12 by kernel_rfl).symm.trans hf) |>.symm
      obtain rfl : fn = Tryz.f12 := (Option.some.inj (Tryz.func12.symm.trans hfn)).symm
      exact ⟨by kernel_rfl, fun j t ht => by
        rw [Tryz.params12] at ht
        have hm : t ∈ [4, 9, 22, 22, 4] := by simpa using Array.mem_of_getElem? ht
        have hall : ([4, 9, 22, 22, 4].all fun u => !Tryz.prog.wantsStandIn u) = true := by kernel_rfl
        exact (show Tryz.prog.wantsStandIn t = false by simpa using List.all_eq_true.1 hall t hm)⟩)
    (by kernel_rfl)
#print axioms fnNamed_card
end Go.Proofs.YtkehggbmpdacpabGreatDoor
