/- FnFrontLines: for every input the law returns true, and each argument reads behind the call as it read before. No condition. -/
import Derived.Test.YtkehggbmpdacpabGreatDoorRows
import Derived.Test.YtkehggbmpdacpabGreatDoorLawFnFrontLines
import Derived.Test.YtkehggbmpdacpabGreatDoorPureFnFrontLines
import Derived.WalkKit
import Derived.ProofKit
import Derived.OpenShut
import Derived.ShutString
import Derived.ChangeOld
import Derived.Below
import Derived.SizedLaws
import Derived.LaidMore
import Derived.Lay
import Derived.SevenTiedAt
import Derived.Stop.Joined
import Derived.Test.YtkehggbmpdacpabGreatDoorTie
import Derived.Test.YtkehggbmpdacpabGreatDoorCards
import Derived.Carry
import Derived.Test.YtkehggbmpdacpabGreatDoorKp16
set_option maxRecDepth 100000
set_option linter.unusedVariables false
set_option linter.unusedSimpArgs false
set_option linter.unusedSectionVars false
namespace Go.Proofs.YtkehggbmpdacpabGreatDoor.fnFrontLines
open Go.ChangeShapes Go.WideShapes Go.ChangeAt Go.RowKit Go.Proofs.YtkehggbmpdacpabGreatDoor.Row0 Go.Proofs.YtkehggbmpdacpabGreatDoorW.PrintWords
open Go.ChangeMaps (open_string shut_string)
theorem own : ownKnob Tryz.prog.godebug = none := by kernel_rfl
theorem laidOut : laidOutB Tryz.prog = true := by kernel_rfl
theorem lifted (os : Os) (started : os.Started) (H : Type) (enc : TypeId × Value → H) :
    ReturnsInHanded {} Tryz.checked os 4 .any (fun w args => (Rows.fnFrontLinesSpec.pre enc Tryz.prog Tryz.f4 Rows.fnFrontLinesRow.domain false w args ∧ laidMetH Tryz.prog Rows.fnFrontLinesRow.laid w) ∧ sizedMet enc Tryz.prog Tryz.f4 (OpenSpec.ofChange Rows.fnFrontLinesSpec) false w args) (Rows.fnFrontLinesSpec.post enc Tryz.prog Tryz.f4 false true false false) := by
  refine returnsInHanded_of_change_and (C := Tryz.checked) (X := fun w _ => laidMetH Tryz.prog Rows.fnFrontLinesRow.laid w) (fun _ _ _ hh h => h.of_heap hh) own started (by kernel_rfl) Tryz.func4
    (ChangeSpec.witness_shaped (enc := enc) (C := Tryz.checked) (os := os) (X := fun w _ => laidMetH Tryz.prog Rows.fnFrontLinesRow.laid w) false (World.laidAll Tryz.prog os Rows.fnFrontLinesRow.laid) #[.bool false, .slice none 0 0, .string ByteArray.empty, .bool false] 8 (World.laidAll_os _ _ _)
      (World.shaped_of_ZipB (by kernel_rfl) (by kernel_rfl)) (by kernel_rfl) (by kernel_rfl) (by kernel_rfl)
      (by rw [MakeChecks.laidMetH_plain _ _ _ (by kernel_rfl)]; exact laidMet_laidAll _ (by kernel_rfl) (by kernel_rfl))) ?_
  intro W base args ds gs before hval0 hW hcnd hsz0 hL _
  have hsz : (DataW.weightsEach Tryz.prog (Tryz.f4.params.toList ++ Rows.fnFrontLinesSpec.plain.varTypes Tryz.prog) (ds ++ gs)).all (· ≤ reachBytes) = true := hsz0
  have hval : ∀ (j : Nat) t v, Tryz.f4.params[j]? = some t → args[j]? = some v → Value.okWide Tryz.prog W .any base t v := hval0
  have hW' := hW
  obtain ⟨p, q, hA0, hV, rfl, hfz, hnd⟩ := hW
  have hA : DataW.TrodAll enc Tryz.prog W 0 (fun _ => true) true Tryz.f4.params.toList args.toList ds p := hA0
  rw [Tryz.params4] at hA hval hsz
  obtain ⟨v0, vs0, d0, ds0, p0, q0, hargs, rfl, rfl, h0, r0⟩ := trodAll_cons hA
  obtain ⟨v1, vs1, d1, ds1, p1, q1, rfl, rfl, rfl, h1, r1⟩ := trodAll_cons r0
  obtain ⟨v2, vs2, d2, ds2, p2, q2, rfl, rfl, rfl, h2, r2⟩ := trodAll_cons r1
  obtain ⟨v3, vs3, d3, ds3, p3, q3, rfl, rfl, rfl, h3, r3⟩ := trodAll_cons r2
  obtain ⟨rfl, rfl, rfl⟩ := trodAll_nil r3
  obtain rfl : args = #[v0, v1, v2, v3] := by cases args; simp_all
  obtain ⟨rfl, rfl⟩ := trodVars_none hV
  obtain ⟨a0, rfl, rfl, rfl⟩ := open_bool Tryz.underlying4 (hval 0 4 v0 rfl rfl) h0
  obtain ⟨a1, len1, cap1, rfl⟩ := okWide_slice Tryz.underlying22 (hval 1 22 v1 rfl rfl)
  have k1 := h1
  have lt1 : ∀ x ∈ p1, x.block < W.heap.size := by obtain ⟨m, hm⟩ := k1; exact DataW.trod_lt m _ _ _ hm
  have w1 : len1 ≤ 8796093022208 := sized_strs hsz (j := 1) (t := 22) (e := 9) rfl rfl Tryz.underlying22 Tryz.underlying9 (by kernel_rfl) (by kernel_rfl) h1
  obtain ⟨l1, rfl, hc1, hr1⟩ := open_strs (e := 9) Tryz.underlying22 Tryz.underlying9 (by kernel_rfl) h1
  obtain ⟨a2, rfl, rfl, rfl, y2⟩ := open_string Tryz.underlying9 (hval 2 9 v2 rfl rfl) h2
  have w2 : a2.size ≤ 140737488351232 := by
    have z := sized_string hsz (j := 2) (t := 9) rfl rfl
    rw [Array.length_toList] at z
    exact z
  obtain ⟨a3, rfl, rfl, rfl⟩ := open_bool Tryz.underlying4 (hval 3 4 v3 rfl rfl) h3
  clear hA0 hval0 hsz0 hsz
  have hp := Pure.FnFrontLines W hL a0 l1 a2 a3 w1 w2
  refine (PFnFrontLines.laws_FnFrontLines.calls a0 a1 cap1 l1 a2 a3 true W hr1 hc1 hp).mono fun e W' ⟨he, bel0⟩ => ?_
  have bel : Below W.heap.size W W' := bel0
  subst he
  exact ⟨_, rfl, _, _, _, [], _, [], hW', trodAll_mk1 (shut_bool Tryz.underlying4 _), (trodAll_cons_mk (shut_bool Tryz.underlying4 _) (trodAll_cons_mk (Below.trod laidOut (by kernel_rfl) (of_decide_eq_true (by kernel_rfl)) k1 bel lt1) (trodAll_cons_mk (shut_string Tryz.underlying9 y2) (trodAll_cons_mk (shut_bool Tryz.underlying4 _) trodAll_mk0)))), rfl, bel.frame _, fun h => by cases h⟩
theorem over : Rows.fnFrontLinesRow.holds Tryz.pinned (OpenSpec.ofChange Rows.fnFrontLinesSpec) :=
  OpenClaim.holds_of_wide 4 Tryz.f4 rfl rfl rfl rfl rfl rfl rfl ⟨rfl, rfl, rfl, rfl, rfl⟩ rfl rfl rfl rfl rfl (by kernel_rfl) Tryz.func4 (by kernel_rfl)
    (of_decide_eq_true (by kernel_rfl)) (by unfold Func.isWrapper; first | (rw [if_pos (by decide +kernel)]; kernel_rfl) | (rw [if_neg (by decide +kernel)]; exact ⟨rfl, rfl⟩))
    (fun os started H enc _ => lifted os started H enc)
theorem proved : Rows.FnFrontLinesSaid := over
#print axioms proved
end Go.Proofs.YtkehggbmpdacpabGreatDoor.fnFrontLines
namespace Go.Proofs.YtkehggbmpdacpabGreatDoor
theorem fnFrontLines_holds : Rows.FnFrontLinesSaid := fnFrontLines.proved
end Go.Proofs.YtkehggbmpdacpabGreatDoor
namespace Go.Proofs.YtkehggbmpdacpabGreatDoor
theorem fnFrontLines_card : Rows.FnFrontLinesCardSaid :=
  Claim7.holds_tied_plain_at .later [] [.data, .listed, .data, .sentinel, .data, .pinned, .pinned, .pinned] true (true, "e4fa89742c93cec316ff2390959f101d86751993b320d959617cf488055ef06b") false fnFrontLines_holds (fun _ h => by cases h) (by kernel_rfl) (fun _ h => by cases h) fnFrontLines_row_tie rfl ⟨rfl, rfl⟩ (by kernel_rfl) rfl
    (fun f fn hf hfn => by
      obtain rfl : f = 4 := Option.some.inj ((show Tryz.prog.funcNamed "pub-quirehand/laws.FnFrontLines" = some 4 by kernel_rfl).symm.trans hf) |>.symm
      obtain rfl : fn = Tryz.f4 := (Option.some.inj (Tryz.func4.symm.trans hfn)).symm
      exact ⟨by kernel_rfl, fun j t ht => by
        rw [Tryz.params4] at ht
        have hm : t ∈ [4, 22, 9, 4] := by simpa using Array.mem_of_getElem? ht
        have hall : ([4, 22, 9, 4].all fun u => !Tryz.prog.wantsStandIn u) = true := by kernel_rfl
        exact (show Tryz.prog.wantsStandIn t = false by simpa using List.all_eq_true.1 hall t hm)⟩)
    (by kernel_rfl)
#print axioms fnFrontLines_card
end Go.Proofs.YtkehggbmpdacpabGreatDoor
