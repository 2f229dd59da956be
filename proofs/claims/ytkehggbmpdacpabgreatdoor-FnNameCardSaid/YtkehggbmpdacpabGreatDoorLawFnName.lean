/- FnName: its walk. -/
import Derived.Test.YtkehggbmpdacpabGreatDoorKp15
set_option maxRecDepth 100000
set_option linter.unusedVariables false
set_option linter.unusedSimpArgs false
set_option linter.unusedSectionVars false
namespace Go.Proofs.YtkehggbmpdacpabGreatDoor.Pg
open Go.Rx hiding bt
open Go.RowKit Go.Proofs.YtkehggbmpdacpabGreatDoor.Dec0 Go.Proofs.YtkehggbmpdacpabGreatDoor.Lex0
theorem und3n : Tryz.prog.underlying 3 = some (.int .i64) := by kernel_rfl
def altT (a b : UInt8) : Nat → T
  | 0 => []
  | n + 1 => altT a b n ++ [if n % 2 = 0 then a else b]
theorem altT_len (a b : UInt8) : ∀ n, (altT a b n).length = n
  | 0 => rfl
  | n + 1 => by rw [altT, List.length_append, altT_len a b n]; rfl
theorem altT_all (a b : UInt8) {p : UInt8 → Prop} (ha : p a) (hb : p b) : ∀ n, ∀ c ∈ altT a b n, p c
  | 0, c, hc => by cases hc
  | n + 1, c, hc => by
    rw [altT] at hc
    rcases List.mem_append.1 hc with h | h
    · exact altT_all a b ha hb n c h
    · rw [List.mem_singleton] at h
      rw [h]
      split
      · exact ha
      · exact hb
theorem alt_cut (a b : UInt8) (j : Nat) : (⟨#[a, b]⟩ : ByteArray).extract (((j % 2 : Nat) : Int)).toNat (((j % 2 + 1 : Nat) : Int)).toNat = ⟨#[if j % 2 = 0 then a else b]⟩ := by
  rw [Int.toNat_natCast, Int.toNat_natCast]
  have h : j % 2 = 0 ∨ j % 2 = 1 := by omega
  rcases h with h | h <;> rw [h] <;> rfl
set_option maxHeartbeats 2000000 in
theorem name_calls (md : Bool) (name : ByteArray) (bli : Int) (w : World) (hT : Tab w) (hs0 : name.size ≤ 140737488351232) (hbl : 0 ≤ bli ∧ bli ≤ 255) :
    Calls Tryz.prog 11 #[.bool md, .string name, .int .u8 bli] w fun e w' => e = .returned (.bool true) ∧ Below w.heap.size w w' := by
  obtain ⟨bl, rfl⟩ : ∃ bl : Nat, bli = (bl : Int) := ⟨bli.toNat, by omega⟩
  refine enter (fun _ => False) 47 [] Tryz.func11 rfl rfl rfl (vs := [.bool md, .string name, .int .u8 bl]) (Has.nil _) ?_
  conv => arg 2; arg 2; whnf
  have hW : ∃ W, Bs W ⟨47, [], fun _ => False, w⟩ ∧ Tab W := ⟨w, ⟨Below.refl _ _, fun k h => h.elim⟩, hT⟩
  have hr := bk0 (X := ⟨47, [], fun _ => False, w⟩)
  have post : ∀ (f : Fr) (m : Mem), Rx.look f 6 = some (.bool true) → PJ ⟨47, [], fun _ => False, w⟩ (bodyPost Tryz.prog Tryz.f11 (fun e w' => e = .returned (.bool true) ∧ Below w.heap.size w w') .ret) f m := fun f m hf =>
    ret1 rfl rfl hf (fun w' hw' => ⟨rfl, hw'.2.below (fun k _ h => h) (Nat.le_refl _)⟩)
  repeat' ((fail_if_success (show PJ _ (Code.wp _ (Code.loop _) _) _ _)); first | first | refine cseq ?_ | refine rtext ?_ | refine ctrue rfl ?_ | refine cfalse rfl ?_ | refine cskip ?_ | refine cblk ?_ | refine cret ?_ | refine tret ?_ | refine jnil ?_ | (first | refine jmv rfl rfl rfl ?_ | refine jas_ rfl rfl rfl ?_ | (show Jo _ (.binOp _ _ _ _ _); first | (show Jo _ (.binOp .gtr _ _ _ _); refine jgtr rfl rfl rfl rfl (fun hq => ?_) (fun hq => ?_)) | (show Jo _ (.binOp .rem 5 _ _ _); refine jy (yremR (c := ((bl % 7 : Nat) : Int)) rfl rfl (by decide) (by rw [Int.tmod_eq_emod_of_nonneg (Int.natCast_nonneg _)]; omega)) rfl rfl ?_)) | refine jy (ynot rfl rfl) rfl rfl ?_ | (show Jo _ (.call _); first | (show Jo _ (.call ⟨.builtin .len, _, #[9]⟩); refine jy (ylens rfl Lw.und9) rfl rfl ?_) | (show Jo _ (.call ⟨.value (.func 15), _, _⟩); refine jcall (ι := Bool) (v := fun b => .bool b) (m' := fun _ => _) (fun b => b = true → Lw.NameF _) Lw.boNm rfl rfl rfl (Lw.named_in (by omega)) (fun b hk => ?_); refine jcases (fun hb => ?_) (fun hb => ?_); try (replace hb := hk hb; have hna := hb.1.asc; have hns := hb.2)) | (show Jo _ (.call ⟨.value (.func 18), _, _⟩); refine jcall (ι := Row) (v := fun _ => .tuple #[]) (m' := fun r' => bkS g _ r' []) (fun r' => BkOk _ r' _) bo23 rfl rfl rfl (leftB_calls hg hr (by (simp only [bsz_left, bsz_put, bsz_as, bsz_pass, bsz_right, bsz_fin, bsz_b0, Txt0.size_list, ba_list, lf_lng, rd3]; omega)) _) (fun r hr => ?_))) | (show Jo _ (.build _ _); refine jy (ybuild rfl bu29) rfl rfl ?_) | (show Jo _ (.box 28 _); refine jbox (c := [.string ⟨#[]⟩, .slice none 0 0]) rfl rfl rfl (fun g hgT => ?_); refine jmem (m' := bkS g b0 .nil []) rfl ?_; have hg : Cx.may ⟨_, [], fun _ => False, w⟩ g := .inr hgT) | (show Jo _ (.convert _ _ _); refine jy (yconvert (c := ((bl % 7 : Nat) : Int)) rfl (by kernel_rfl) und3n (by rw [i64_in (by omega) (by omega)])) rfl rfl ?_)))
  all_goals first | exact post _ _ rfl | skip
  refine fin (f' := [(0, .bool md), (1, .string name), (7, .pointer (some ⟨g, 0, none⟩)), (22, .int .i64 (bl % 7 : Nat)), (23, .int .i64 (0 : Nat))]) (m' := bkS g ((b0.left md).pass (altT 32 10 0)) r [])
    (cloop (ι := Nat × Row) (fun q => [(0, .bool md), (1, .string name), (7, .pointer (some ⟨g, 0, none⟩)), (22, .int .i64 (bl % 7 : Nat)), (23, .int .i64 (q.1 : Nat))]) (fun q => bkS g ((b0.left md).pass (altT 32 10 q.1)) q.2 []) (fun k q => k = bl % 7 - q.1 ∧ q.1 ≤ bl % 7 ∧ BkOk ⟨47, [], fun _ => False, w⟩ q.2 ((b0.left md).pass (altT 32 10 q.1)).l) (bl % 7) (0, r) ⟨rfl, Nat.zero_le _, hr⟩ ?_) ⟨rfl, rfl, rfl, rfl, rfl, trivial⟩ (by cases md <;> rfl)
  rintro k ⟨j, r⟩ ⟨rfl, hj, hr⟩ K hK
  dsimp only at hj hr hK ⊢
  have hsz : bsz ((b0.left md).pass (altT 32 10 j)) ≤ 100 := by rw [bsz_pass, altT_len, bsz_left, bsz_b0]; omega
  by_cases hlt : j < bl % 7
  · have hk := fun r hr => hK (bl % 7 - (j + 1)) (j + 1, r) (by omega) ⟨rfl, by omega, hr⟩
    have e : (b0.left md).pass (altT 32 10 (j + 1)) = ((b0.left md).pass (altT 32 10 j)).pass [if j % 2 = 0 then 32 else 10] := by rw [Book.pass_pass]; rfl
    simp only [e] at hk
    generalize hB : (b0.left md).pass (altT 32 10 j) = B at hr hsz hk ⊢
    repeat' (first | refine cseq ?_ | refine rtext ?_ | refine ctrue rfl ?_ | refine cskip ?_ | refine cblk ?_ | refine tnorm ?_ | refine jnil ?_ | (first | refine jmv rfl rfl rfl ?_ | refine jas_ rfl rfl rfl ?_ | (show Jo _ (.binOp _ _ _ _ _); first | (show Jo (some 31) (.binOp .add _ _ _ _); refine jy (yadd (c := ((j % 2 + 1 : Nat) : Int)) rfl rfl (by rw [i64_in (by omega) (by omega)]; omega)) rfl rfl ?_) | (show Jo _ (.binOp .add 3 _ _ _); refine jy (yadd (c := ((j + 1 : Nat) : Int)) rfl rfl (by rw [i64_in (by omega) (by omega)]; omega)) rfl rfl ?_) | (show Jo _ (.binOp .rem 3 _ _ _); refine jy (yremR (c := ((j % 2 : Nat) : Int)) rfl rfl (by decide) (by rw [Int.tmod_eq_emod_of_nonneg (Int.natCast_nonneg _)]; omega)) rfl rfl ?_) | refine jy (ylss rfl rfl (by (exact decide_eq_true (by omega)))) rfl rfl ?_) | (show Jo _ (.call _); ((show Jo _ (.call ⟨.value (.func 20), _, _⟩); refine jcall (ι := Row) (v := fun _ => .tuple #[]) (m' := fun r' => bkS g _ r' []) (fun r' => BkOk _ r' _) bo25 rfl rfl rfl (passR_calls hg hr (by (omega)) (by (rw [bz1]; decide))) (fun r hr => ?_)))) | (show Jo _ (.slice _ _ _ _ _); refine jy (yslice (r := ⟨#[if j % 2 = 0 then 32 else 10]⟩) rfl rfl rfl Lw.und9 (by omega) (by omega) (by show _ ≤ (((⟨#[32, 10]⟩ : ByteArray).size : Nat) : Int); rw [bz2]; omega) (alt_cut 32 10 j)) rfl rfl ?_)))
    exact fin (hk r hr) ⟨rfl, rfl, rfl, rfl, rfl, trivial⟩ rfl
  · obtain rfl : j = bl % 7 := by omega
    have htell : told (((((b0.left md).pass (altT 32 10 (bl % 7))).put 13 name.data.toList).pass [32]).right md).fin.s false true = (((((b0.left md).pass (altT 32 10 (bl % 7))).put 13 name.data.toList).pass [32]).right md).fin.l := by
      refine Eq.trans ?_ (told_of (law_name ea_env tra_env true md hb.1 (altT 32 10 (bl % 7)) (altT_all (p := fun c => isSp c.toNat = true) 32 10 rfl rfl _)))
      congr 1
      simp [Book.fin, Book.right, Book.left, Book.put, Book.pass, Book.as_, b0]
    generalize hB : (b0.left md).pass (altT 32 10 (bl % 7)) = B at hr hsz htell ⊢
    repeat' (first | refine cseq ?_ | refine rtext ?_ | refine cfalse rfl ?_ | refine cret ?_ | refine cexit ?_ | refine jnil ?_ | (first | refine jmv rfl rfl rfl ?_ | refine jas_ rfl rfl rfl ?_ | (show Jo _ (.binOp _ _ _ _ _); refine jy (ylss rfl rfl (by (exact decide_eq_false (by omega)))) rfl rfl ?_) | (show Jo _ (.call _); first | (show Jo _ (.call ⟨.value (.func 22), _, _⟩); refine jcall (ι := Row) (v := fun _ => .tuple #[]) (m' := fun r' => bkS g _ r' []) (fun r' => BkOk _ r' _) bo26 rfl rfl rfl (rightB_calls hg hr (by (simp [bsz_left, bsz_put, bsz_as, bsz_pass, bsz_right, bsz_fin, bsz_b0, Txt0.size_list, ba_list, lf_lng, rd3]; omega)) _) (fun r hr => ?_)) | (show Jo _ (.call ⟨.value (.func 23), _, _⟩); refine jcall (ι := Row) (v := fun _ => .tuple #[]) (m' := fun r' => bkS g _ r' []) (fun r' => BkOk _ r' _) bo27 rfl rfl rfl (endB_calls hg hr (by (simp [bsz_left, bsz_put, bsz_as, bsz_pass, bsz_right, bsz_fin, bsz_b0, Txt0.size_list, ba_list, lf_lng, rd3]; omega))) (fun r hr => ?_)) | (show Jo _ (.call ⟨.value (.func 20), _, _⟩); refine jcall (ι := Row) (v := fun _ => .tuple #[]) (m' := fun r' => bkS g _ r' []) (fun r' => BkOk _ r' _) bo25 rfl rfl rfl (passR_calls hg hr (by (simp only [bsz_left, bsz_put, bsz_as, bsz_pass, bsz_right, bsz_fin, bsz_b0, Txt0.size_list, ba_list, lf_lng, rd3]; omega)) (by (decide))) (fun r hr => ?_)) | (show Jo _ (.call ⟨.value (.func 19), _, _⟩); refine jcall (ι := Row) (v := fun _ => .tuple #[]) (m' := fun r' => bkS g _ r' []) (fun r' => BkOk _ r' _) bo24 rfl rfl rfl (putB_calls hg hr (by (omega)) (by decide) (by (omega)) (by (assumption))) (fun r hr => ?_)) | (show Jo _ (.call ⟨.value (.func 24), _, _⟩); refine jcall0 (v := .bool true) (bkS g _ r []) bo19 rfl rfl rfl (tells_calls hW hr _ _ (by (simp [bsz_left, bsz_put, bsz_as, bsz_pass, bsz_right, bsz_fin, bsz_b0, Txt0.size_list, ba_list, lf_lng, rd3]; omega)) htell) ?_))))
    exact post _ _ rfl
end Go.Proofs.YtkehggbmpdacpabGreatDoor.Pg
namespace Go.Proofs.YtkehggbmpdacpabGreatDoor.PFnName
open Go.Rx Go.RowKit Go.Proofs.YtkehggbmpdacpabGreatDoorW.PrintWords
theorem laws_FnName.calls (a0 : Bool) (a1 : ByteArray) (a2 : Int) (ret_ : Bool) (w : World)  (h : ret_ = true ∧ a1.size ≤ 140737488351232 ∧ (0 ≤ a2 ∧ a2 ≤ 255) ∧ Pg.Tab w) :
    Calls Tryz.prog 11 #[.bool a0, .string a1, .int .u8 a2] w fun e w' => e = .returned (.bool ret_) ∧ Below w.heap.size w w' := by
  obtain ⟨rfl, h1, h2, hT⟩ := h
  exact Pg.name_calls a0 a1 a2 w hT h1 h2
end Go.Proofs.YtkehggbmpdacpabGreatDoor.PFnName
