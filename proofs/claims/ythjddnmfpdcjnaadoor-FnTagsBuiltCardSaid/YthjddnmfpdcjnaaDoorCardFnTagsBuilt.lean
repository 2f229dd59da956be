/- FnTagsBuilt: for every input the law returns true, and each argument reads behind the call as it read before. No condition. -/
import Derived.Test.YthjddnmfpdcjnaaDoorRows
import Derived.Test.YthjddnmfpdcjnaaDoorLawFnTagsBuilt
import Derived.Test.YthjddnmfpdcjnaaDoorPureFnTagsBuilt
import Derived.Test.YthjddnmfpdcjnaaDoorRow0
import Derived.WalkKit
import Derived.ProofKit
import Derived.OpenShut
import Derived.ShutString
import Derived.ChangeOld
import Derived.Below
import Derived.SizedLaws
import Derived.LaidMore
import Derived.Lay
import Derived.SevenTiedAt
import Derived.Stop.Joined
import Derived.Test.YthjddnmfpdcjnaaDoorTie
import Derived.Test.YthjddnmfpdcjnaaDoorCards
import Derived.Carry
namespace Go.Proofs.YthjddnmfpdcjnaaDoor.fnTagsBuilt
open Go.ChangeShapes Go.WideShapes Go.ChangeAt Go.RowKit Go.Proofs.YthjddnmfpdcjnaaDoor.Row0 Go.Proofs.YthjddnmfpdcjnaaDoorW.PrintWords
open Go.ChangeMaps (open_string shut_string)
set_option linter.unusedVariables false
theorem own : ownKnob Tryd.prog.godebug = none := by kernel_rfl
theorem laidOut : laidOutB Tryd.prog = true := by kernel_rfl
set_option maxRecDepth 100000 in
theorem lifted (os : Os) (started : os.Started) (H : Type) (enc : TypeId × Value → H) :
    ReturnsInHanded {} Tryd.checked os 7 .any (fun w args => (Rows.fnTagsBuiltSpec.pre enc Tryd.prog Tryd.f7 Rows.fnTagsBuiltRow.domain false w args ∧ laidMetH Tryd.prog Rows.fnTagsBuiltRow.laid w) ∧ sizedMet enc Tryd.prog Tryd.f7 (OpenSpec.ofChange Rows.fnTagsBuiltSpec) false w args) (Rows.fnTagsBuiltSpec.post enc Tryd.prog Tryd.f7 false true false false) := by
  refine returnsInHanded_of_change_and (C := Tryd.checked) (X := fun w _ => laidMetH Tryd.prog Rows.fnTagsBuiltRow.laid w) (fun _ _ _ hh h => h.of_heap hh) own started (by kernel_rfl) Tryd.func7
    (ChangeSpec.witness_shaped (enc := enc) (C := Tryd.checked) (os := os) (X := fun w _ => laidMetH Tryd.prog Rows.fnTagsBuiltRow.laid w) false (World.laidAll Tryd.prog os Rows.fnTagsBuiltRow.laid) #[.string ByteArray.empty, .string ByteArray.empty, .slice none 0 0, .bool false, .bool false, .string ByteArray.empty] 8 (World.laidAll_os _ _ _)
      (World.shaped_of_ZipB (by kernel_rfl) (by kernel_rfl)) (by kernel_rfl) (by kernel_rfl) (by kernel_rfl)
      (by rw [MakeChecks.laidMetH_plain _ _ _ (by kernel_rfl)]; exact laidMet_laidAll _ (by kernel_rfl) (by kernel_rfl))) ?_
  intro W base args ds gs before hval0 hW hcnd hsz0 hL _
  have hsz : (DataW.weightsEach Tryd.prog (Tryd.f7.params.toList ++ Rows.fnTagsBuiltSpec.plain.varTypes Tryd.prog) (ds ++ gs)).all (· ≤ reachBytes) = true := hsz0
  have hval : ∀ (j : Nat) t v, Tryd.f7.params[j]? = some t → args[j]? = some v → Value.okWide Tryd.prog W .any base t v := hval0
  have hW' := hW
  obtain ⟨p, q, hA0, hV, rfl, hfz, hnd⟩ := hW
  have hA : DataW.TrodAll enc Tryd.prog W 0 (fun _ => true) true Tryd.f7.params.toList args.toList ds p := hA0
  rw [Tryd.params7] at hA hval hsz
  obtain ⟨v0, vs0, d0, ds0, p0, q0, hargs, rfl, rfl, h0, r0⟩ := trodAll_cons hA
  obtain ⟨v1, vs1, d1, ds1, p1, q1, rfl, rfl, rfl, h1, r1⟩ := trodAll_cons r0
  obtain ⟨v2, vs2, d2, ds2, p2, q2, rfl, rfl, rfl, h2, r2⟩ := trodAll_cons r1
  obtain ⟨v3, vs3, d3, ds3, p3, q3, rfl, rfl, rfl, h3, r3⟩ := trodAll_cons r2
  obtain ⟨v4, vs4, d4, ds4, p4, q4, rfl, rfl, rfl, h4, r4⟩ := trodAll_cons r3
  obtain ⟨v5, vs5, d5, ds5, p5, q5, rfl, rfl, rfl, h5, r5⟩ := trodAll_cons r4
  obtain ⟨rfl, rfl, rfl⟩ := trodAll_nil r5
  obtain rfl : args = #[v0, v1, v2, v3, v4, v5] := by cases args; simp_all
  obtain ⟨rfl, rfl⟩ := trodVars_none hV
  obtain ⟨a0, rfl, rfl, rfl, y0⟩ := open_string Tryd.underlying9 (hval 0 9 v0 rfl rfl) h0
  have w0 : a0.size ≤ 140737488351232 := by
    have z := sized_string hsz (j := 0) (t := 9) rfl rfl
    rw [Array.length_toList] at z
    exact z
  obtain ⟨a1, rfl, rfl, rfl, y1⟩ := open_string Tryd.underlying9 (hval 1 9 v1 rfl rfl) h1
  have w1 : a1.size ≤ 140737488351232 := by
    have z := sized_string hsz (j := 1) (t := 9) rfl rfl
    rw [Array.length_toList] at z
    exact z
  obtain ⟨a2, len2, cap2, rfl⟩ := okWide_slice Tryd.underlying37 (hval 2 37 v2 rfl rfl)
  have k2 := h2
  have lt2 : ∀ x ∈ p2, x.block < W.heap.size := by obtain ⟨m, hm⟩ := k2; exact DataW.trod_lt m _ _ _ hm
  have w2 : len2 ≤ 8796093022208 := sized_strs hsz (j := 2) (t := 37) (e := 9) rfl rfl Tryd.underlying37 Tryd.underlying9 (by kernel_rfl) (by kernel_rfl) h2
  obtain ⟨l2, rfl, hc2, hr2⟩ := open_strs (e := 9) Tryd.underlying37 Tryd.underlying9 (by kernel_rfl) h2
  obtain ⟨a3, rfl, rfl, rfl⟩ := open_bool Tryd.underlying4 (hval 3 4 v3 rfl rfl) h3
  obtain ⟨a4, rfl, rfl, rfl⟩ := open_bool Tryd.underlying4 (hval 4 4 v4 rfl rfl) h4
  obtain ⟨a5, rfl, rfl, rfl, y5⟩ := open_string Tryd.underlying9 (hval 5 9 v5 rfl rfl) h5
  have w5 : a5.size ≤ 140737488351232 := by
    have z := sized_string hsz (j := 5) (t := 9) rfl rfl
    rw [Array.length_toList] at z
    exact z
  clear hA0 hval0 hsz0 hsz
  have hp := Pure.FnTagsBuilt a0 a1 l2 a3 a4 a5 w0 w1 w2 w5
  refine (PFnTagsBuilt.laws_FnTagsBuilt.calls a0 a1 a2 cap2 l2 a3 a4 a5 true W hr2 hc2 hp).mono fun e W' ⟨he, bel0⟩ => ?_
  have bel : Below W.heap.size W W' := bel0
  subst he
  exact ⟨_, rfl, _, _, _, [], _, [], hW', trodAll_mk1 (shut_bool Tryd.underlying4 _), (trodAll_cons_mk (shut_string Tryd.underlying9 y0) (trodAll_cons_mk (shut_string Tryd.underlying9 y1) (trodAll_cons_mk (Below.trod laidOut (by kernel_rfl) (of_decide_eq_true (by kernel_rfl)) k2 bel lt2) (trodAll_cons_mk (shut_bool Tryd.underlying4 _) (trodAll_cons_mk (shut_bool Tryd.underlying4 _) (trodAll_cons_mk (shut_string Tryd.underlying9 y5) trodAll_mk0)))))), rfl, bel.frame _, fun h => by cases h⟩
theorem over : Rows.fnTagsBuiltRow.holds Tryd.pinned (OpenSpec.ofChange Rows.fnTagsBuiltSpec) :=
  OpenClaim.holds_of_wide 7 Tryd.f7 rfl rfl rfl rfl rfl rfl rfl ⟨rfl, rfl, rfl, rfl, rfl⟩ rfl rfl rfl rfl rfl (by kernel_rfl) Tryd.func7 (by kernel_rfl)
    (of_decide_eq_true (by kernel_rfl)) (by unfold Func.isWrapper; first | (rw [if_pos (by decide +kernel)]; kernel_rfl) | (rw [if_neg (by decide +kernel)]; exact ⟨rfl, rfl⟩))
    (fun os started H enc _ => lifted os started H enc)
theorem proved : Rows.FnTagsBuiltSaid := over
#print axioms proved
end Go.Proofs.YthjddnmfpdcjnaaDoor.fnTagsBuilt
namespace Go.Proofs.YthjddnmfpdcjnaaDoor
/-- The row, under a short name, for the claim. -/
theorem fnTagsBuilt_holds : Rows.FnTagsBuiltSaid := fnTagsBuilt.proved
end Go.Proofs.YthjddnmfpdcjnaaDoor
namespace Go.Proofs.YthjddnmfpdcjnaaDoor
/-- The card: the row, its listed variables tied to the program's text. -/
theorem fnTagsBuilt_card : Rows.FnTagsBuiltCardSaid :=
  Claim7.holds_tied_plain_at .later [] [.data, .data, .data, .pinned, .pinned] true (true, "7d3068fc8bc5b017fd3ce4a5961dee59e257943b04302371cee31ed276f64a14") false fnTagsBuilt_holds (fun _ h => by cases h) (by kernel_rfl) (fun _ h => by cases h) fnTagsBuilt_row_tie rfl ⟨rfl, rfl⟩ (by kernel_rfl) rfl
    (fun f fn hf hfn => by
      obtain rfl : f = 7 := Option.some.inj ((show Tryd.prog.funcNamed "pub-quirehand/laws.FnTagsBuilt" = some 7 by kernel_rfl).symm.trans hf) |>.symm
      obtain rfl : fn = Tryd.f7 := (Option.some.inj (Tryd.func7.symm.trans hfn)).symm
      exact ⟨by kernel_rfl, fun j t ht => by
        rw [Tryd.params7] at ht
        have hm : t ∈ [9, 9, 37, 4, 4, 9] := by simpa using Array.mem_of_getElem? ht
        have hall : ([9, 9, 37, 4, 4, 9].all fun u => !Tryd.prog.wantsStandIn u) = true := by kernel_rfl
        exact (show Tryd.prog.wantsStandIn t = false by simpa using List.all_eq_true.1 hall t hm)⟩)
    (by kernel_rfl)
#print axioms fnTagsBuilt_card
end Go.Proofs.YthjddnmfpdcjnaaDoor
