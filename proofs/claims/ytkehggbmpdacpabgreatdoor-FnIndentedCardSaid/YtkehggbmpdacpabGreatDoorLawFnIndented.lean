/- FnIndented: its walk. -/
import Derived.Test.YtkehggbmpdacpabGreatDoorLwPr
import Derived.Test.YtkehggbmpdacpabGreatDoorPl2
import Derived.Test.YtkehggbmpdacpabGreatDoorKp15
set_option maxRecDepth 100000
set_option linter.unusedVariables false
set_option linter.unusedSimpArgs false
set_option linter.unusedSectionVars false
namespace Go.Proofs.YtkehggbmpdacpabGreatDoor.Pg
open Go.Rx hiding bt
open Go.RowKit Go.Proofs.YtkehggbmpdacpabGreatDoor.Dec0 Go.Proofs.YtkehggbmpdacpabGreatDoor.Lex0
theorem und3m : Tryz.prog.underlying 3 = some (.int .i64) := by kernel_rfl
def alS (a b : UInt8) : Nat → T
  | 0 => []
  | n + 1 => alS a b n ++ [if n % 2 = 0 then a else b]
theorem alS_len (a b : UInt8) : ∀ n, (alS a b n).length = n
  | 0 => rfl
  | n + 1 => by rw [alS, List.length_append, alS_len a b n]; rfl
theorem alS_all (a b : UInt8) {p : UInt8 → Prop} (ha : p a) (hb : p b) : ∀ n, ∀ c ∈ alS a b n, p c
  | 0, c, hc => by cases hc
  | n + 1, c, hc => by
    rw [alS] at hc
    rcases List.mem_append.1 hc with h | h
    · exact alS_all a b ha hb n c h
    · rw [List.mem_singleton] at h
      rw [h]
      split
      · exact ha
      · exact hb
theorem al_cut (a b : UInt8) (j : Nat) : (⟨#[a, b]⟩ : ByteArray).extract (((j % 2 : Nat) : Int)).toNat (((j % 2 + 1 : Nat) : Int)).toNat = ⟨#[if j % 2 = 0 then a else b]⟩ := by
  rw [Int.toNat_natCast, Int.toNat_natCast]
  have h : j % 2 = 0 ∨ j % 2 = 1 := by omega
  rcases h with h | h <;> rw [h] <;> rfl
set_option maxHeartbeats 4000000 in
theorem indented_calls (md : Bool) (line : ByteArray) (bli : Int) (name : ByteArray) (w : World) (hT : Tab w) (hs0 : line.size ≤ 140737488351232) (hbl : 0 ≤ bli ∧ bli ≤ 255) (hs1 : name.size ≤ 140737488351232) :
    Calls Tryz.prog 6 #[.bool md, .string line, .int .u8 bli, .string name] w fun e w' => e = .returned (.bool true) ∧ Below w.heap.size w w' := by
  obtain ⟨bl, rfl⟩ : ∃ bl : Nat, bli = (bl : Int) := ⟨bli.toNat, by omega⟩
  refine enter (fun _ => False) 78 [] Tryz.func6 rfl rfl rfl (vs := [.bool md, .string line, .int .u8 bl, .string name]) (Has.nil _) ?_
  conv => arg 2; arg 2; whnf
  have hW : ∃ W, Bs W ⟨78, [], fun _ => False, w⟩ ∧ Tab W := ⟨w, ⟨Below.refl _ _, fun k h => h.elim⟩, hT⟩
  have hr := bk0 (X := ⟨78, [], fun _ => False, w⟩)
  have post : ∀ (f : Fr) (m : Mem), Rx.look f 8 = some (.bool true) → PJ ⟨78, [], fun _ => False, w⟩ (bodyPost Tryz.prog Tryz.f6 (fun e w' => e = .returned (.bool true) ∧ Below w.heap.size w w') .ret) f m := fun f m hf =>
    ret1 rfl rfl hf (fun w' hw' => ⟨rfl, hw'.2.below (fun k _ h => h) (Nat.le_refl _)⟩)
  have hem : line = ⟨#[]⟩ → line.data.toList = [] := fun h => by rw [h]
  have hne : ¬ line = ⟨#[]⟩ → ¬ line.data.toList = [] := fun h e => h (by rw [Txt0.data_inj]; exact e)
  repeat' ((fail_if_success (show PJ _ (Code.wp _ (Code.loop _) _) _ _)); first | (show Jo (some 44) (.call _); refine jcall (ι := Row) (v := fun _ => .tuple #[]) (m' := fun r' => bkS g _ r' []) (fun r' => BkOk _ r' _) bo24 rfl rfl rfl (putB_calls hg hr (by rw [bsz_b0]; decide) (by decide) (by simp only [ByteArray.size_append, bz1]; omega) (by rw [Txt0.app_list]; exact asc_app hpa (by intro c hc; revert c; decide))) (fun r hr => ?_)) | first | refine cseq ?_ | refine rtext ?_ | refine ctrue rfl ?_ | refine cfalse rfl ?_ | refine cskip ?_ | refine cblk ?_ | refine cret ?_ | refine tret ?_ | refine jnil ?_ | (first | refine js rfl rfl ?_ | refine jmv rfl rfl rfl ?_ | refine jas_ rfl rfl rfl ?_ | (show Jo _ (.binOp _ _ _ _ _); first | (show Jo _ (.binOp .gtr _ _ _ _); refine jgtr rfl rfl rfl rfl (fun hq => ?_) (fun hq => ?_)) | (show Jo _ (.binOp .add 9 _ _ _); refine jy (ysadd rfl rfl (by simp only [bz1]; omega) rfl) rfl rfl ?_) | (show Jo _ (.binOp .rem 5 _ _ _); refine jy (yremR (c := ((bl % 9 : Nat) : Int)) rfl rfl (by decide) (by rw [Int.tmod_eq_emod_of_nonneg (Int.natCast_nonneg _)]; omega)) rfl rfl ?_) | (show Jo _ (.binOp .neq 9 _ _ _); first | refine jy (ysneq (c := true) rfl rfl (decide_eq_true hine)) rfl rfl ?_ | refine jy (ysneq (c := false) rfl rfl (decide_eq_false (fun h => h hine))) rfl rfl ?_ | refine jsneq rfl rfl rfl rfl (fun hine => ?_) (fun hine => ?_)) | refine jeql rfl rfl rfl rfl (fun hq => ?_) (fun hq => ?_)) | (show Jo _ (.pick _ _ _); first | refine jy (ypick1 rfl rfl) rfl rfl ?_ | refine jy (ypick0 rfl rfl) rfl rfl ?_) | refine jy (ynot rfl rfl) rfl rfl ?_ | (show Jo _ (.call _); first | (show Jo _ (.call ⟨.builtin .len, _, #[9]⟩); refine jy (ylens rfl Lw.und9) rfl rfl ?_) | (show Jo _ (.call ⟨.value (.func 15), _, _⟩); refine jcall (ι := Bool) (v := fun b => .bool b) (m' := fun _ => _) (fun b => b = true → Lw.NameF _) Lw.boNm rfl rfl rfl (Lw.named_in (by omega)) (fun b hk => ?_); refine jcases (fun hb => ?_) (fun hb => ?_); try (replace hb := hk hb; have hna := hb.1.asc; have hns := hb.2)) | (show Jo _ (.call ⟨.value (.func 33), _, _⟩); refine jcall (ι := Bool) (v := fun b => .bool b) (m' := fun _ => _) (fun b => b = true → Lw.ProseF _) Lw.boPr rfl rfl rfl (Lw.prose_in (by omega)) (fun b hk => ?_); refine jcases (fun hp => ?_) (fun hp => ?_); try (replace hp := hk hp; have hpa := hp.1.asc; have hps := hp.2))) | (show Jo _ (.build _ _); refine jy (ybuild rfl bu29) rfl rfl ?_) | (show Jo _ (.box 28 _); refine jbox (c := [.string ⟨#[]⟩, .slice none 0 0]) rfl rfl rfl (fun g hgT => ?_); refine jmem (m' := bkS g b0 .nil []) rfl ?_; have hg : Cx.may ⟨_, [], fun _ => False, w⟩ g := .inr hgT) | (show Jo _ (.convert _ _ _); refine jy (yconvert (c := ((bl % 9 : Nat) : Int)) rfl (by kernel_rfl) und3m (by rw [i64_in (by omega) (by omega)])) rfl rfl ?_)))
  all_goals first | exact post _ _ rfl | skip
  any_goals
    (have hz := hem hine
     obtain ⟨r, hrn⟩ : ∃ r : Row, r = .nil := ⟨_, rfl⟩
     rw [← hrn] at hr ⊢)
  all_goals
    have hpp : line.data.toList = [] ∨ ProseT line.data.toList := by first | exact .inr hp.1 | exact .inl (hem hine)
    have hlz : line.size ≤ 65536 := by first | omega | (rw [hine]; decide)
    obtain ⟨B0, hB0, hsz0⟩ : ∃ B0 : Book, B0 = (if line.data.toList = [] then b0 else b0.put 18 (line.data.toList ++ [10])) ∧ bsz B0 ≤ 70000 := ⟨_, rfl, by split <;> first | (simp [bsz_put, bsz_b0, Txt0.size_list]; done) | (simp [bsz_put, bsz_b0, Txt0.size_list]; omega)⟩
    have hr0 : BkOk ⟨78, [], fun _ => False, w⟩ r B0.l := by rw [hB0]; first | (rw [if_pos (hem hine)]; exact hr) | (rw [if_neg (hne hine)]; rw [Txt0.app_list] at hr; exact hr)
    refine fin (f' := [(0, .bool md), (3, .string name), (9, .pointer (some ⟨g, 0, none⟩)), (10, .string ⟨#[]⟩), (47, .int .i64 (bl % 9 : Nat)), (48, .int .i64 (0 : Nat))]) (m' := bkS g B0 r [])
      (cloop (ι := Nat × ByteArray) (fun q => [(0, .bool md), (3, .string name), (9, .pointer (some ⟨g, 0, none⟩)), (10, .string q.2), (47, .int .i64 (bl % 9 : Nat)), (48, .int .i64 (q.1 : Nat))]) (fun _ => bkS g B0 r []) (fun k q => k = bl % 9 - q.1 ∧ q.1 ≤ bl % 9 ∧ q.2.data.toList = alS 32 9 q.1) (bl % 9) (0, ⟨#[]⟩) ⟨rfl, Nat.zero_le _, rfl⟩ ?_) ⟨rfl, rfl, rfl, rfl, rfl, rfl, trivial⟩ (by rw [hB0]; first | rw [if_pos (hem hine)] | rw [if_neg (hne hine), Txt0.app_list])
    rintro k ⟨j, s⟩ ⟨rfl, hj, hS⟩ K hK
    dsimp only at hj hS hK ⊢
    have hsz : s.size = j := by rw [← Txt0.size_list, hS, alS_len]
    by_cases hlt : j < bl % 9
    · have hk := hK (bl % 9 - (j + 1)) (j + 1, s ++ ⟨#[if j % 2 = 0 then 32 else 9]⟩) (by omega) ⟨rfl, by dsimp only; omega, by dsimp only; rw [Txt0.app_list, hS]; rfl⟩
      dsimp only at hk
      repeat' (first | refine cseq ?_ | refine rtext ?_ | refine ctrue rfl ?_ | refine cskip ?_ | refine cblk ?_ | refine tnorm ?_ | refine jnil ?_ | (first | refine jmv rfl rfl rfl ?_ | refine jas_ rfl rfl rfl ?_ | (show Jo _ (.binOp _ _ _ _ _); first | (show Jo (some 56) (.binOp .add _ _ _ _); refine jy (yadd (c := ((j % 2 + 1 : Nat) : Int)) rfl rfl (by rw [i64_in (by omega) (by omega)]; omega)) rfl rfl ?_) | (show Jo _ (.binOp .add 3 _ _ _); refine jy (yadd (c := ((j + 1 : Nat) : Int)) rfl rfl (by rw [i64_in (by omega) (by omega)]; omega)) rfl rfl ?_) | (show Jo _ (.binOp .add 9 _ _ _); refine jy (ysadd rfl rfl (by simp only [bz1]; omega) rfl) rfl rfl ?_) | (show Jo _ (.binOp .rem 3 _ _ _); refine jy (yremR (c := ((j % 2 : Nat) : Int)) rfl rfl (by decide) (by rw [Int.tmod_eq_emod_of_nonneg (Int.natCast_nonneg _)]; omega)) rfl rfl ?_) | refine jy (ylss rfl rfl (by (exact decide_eq_true (by omega)))) rfl rfl ?_) | (show Jo _ (.slice _ _ _ _ _); refine jy (yslice (r := ⟨#[if j % 2 = 0 then 32 else 9]⟩) rfl rfl rfl Lw.und9 (by omega) (by omega) (by show _ ≤ (((⟨#[32, 9]⟩ : ByteArray).size : Nat) : Int); rw [bz2]; omega) (al_cut 32 9 j)) rfl rfl ?_)))
      exact fin hk ⟨rfl, rfl, rfl, rfl, rfl, rfl, trivial⟩ rfl
    · obtain rfl : j = bl % 9 := by omega
      have hsa : asc s.data.toList := by rw [hS]; exact alS_all 32 9 (p := fun c => c.toNat < 128) (by decide) (by decide) _
      have htell : told (((((B0.put 17 s.data.toList).left md).put 13 name.data.toList).pass [32]).right md).fin.s false true = (((((B0.put 17 s.data.toList).left md).put 13 name.data.toList).pass [32]).right md).fin.l := by
        rw [hS, hB0]
        have hv0 : alS 32 9 (bl % 9) ≠ [] := by intro h; have := alS_len 32 9 (bl % 9); rw [h] at this; simp at this; omega
        refine Eq.trans ?_ (told_of (law_indented ea_env tra_env true md hb.1 hpp (alS_all 32 9 (p := fun c => isBl c = true) rfl rfl _) hv0))
        congr 1
        split <;> simp [Book.fin, Book.right, Book.left, Book.put, Book.pass, Book.as_, b0]
      replace hr := hr0
      repeat' (first | refine cseq ?_ | refine rtext ?_ | refine cfalse rfl ?_ | refine cret ?_ | refine cexit ?_ | refine jnil ?_ | (first | refine jmv rfl rfl rfl ?_ | refine jas_ rfl rfl rfl ?_ | (show Jo _ (.binOp _ _ _ _ _); refine jy (ylss rfl rfl (by (exact decide_eq_false (by omega)))) rfl rfl ?_) | (show Jo _ (.call _); first | (show Jo _ (.call ⟨.value (.func 18), _, _⟩); refine jcall (ι := Row) (v := fun _ => .tuple #[]) (m' := fun r' => bkS g _ r' []) (fun r' => BkOk _ r' _) bo23 rfl rfl rfl (leftB_calls hg hr (by (simp only [bsz_left, bsz_put, bsz_as, bsz_pass, bsz_right, bsz_fin, bsz_b0, Txt0.size_list, ba_list, lf_lng, rd3]; omega)) _) (fun r hr => ?_)) | (show Jo _ (.call ⟨.value (.func 22), _, _⟩); refine jcall (ι := Row) (v := fun _ => .tuple #[]) (m' := fun r' => bkS g _ r' []) (fun r' => BkOk _ r' _) bo26 rfl rfl rfl (rightB_calls hg hr (by (simp [bsz_left, bsz_put, bsz_as, bsz_pass, bsz_right, bsz_fin, bsz_b0, Txt0.size_list, ba_list, lf_lng, rd3]; omega)) _) (fun r hr => ?_)) | (show Jo _ (.call ⟨.value (.func 23), _, _⟩); refine jcall (ι := Row) (v := fun _ => .tuple #[]) (m' := fun r' => bkS g _ r' []) (fun r' => BkOk _ r' _) bo27 rfl rfl rfl (endB_calls hg hr (by (simp [bsz_left, bsz_put, bsz_as, bsz_pass, bsz_right, bsz_fin, bsz_b0, Txt0.size_list, ba_list, lf_lng, rd3]; omega))) (fun r hr => ?_)) | (show Jo _ (.call ⟨.value (.func 20), _, _⟩); refine jcall (ι := Row) (v := fun _ => .tuple #[]) (m' := fun r' => bkS g _ r' []) (fun r' => BkOk _ r' _) bo25 rfl rfl rfl (passR_calls hg hr (by (simp only [bsz_left, bsz_put, bsz_as, bsz_pass, bsz_right, bsz_fin, bsz_b0, Txt0.size_list, ba_list, lf_lng, rd3]; omega)) (by (decide))) (fun r hr => ?_)) | (show Jo _ (.call ⟨.value (.func 19), _, _⟩); refine jcall (ι := Row) (v := fun _ => .tuple #[]) (m' := fun r' => bkS g _ r' []) (fun r' => BkOk _ r' _) bo24 rfl rfl rfl (putB_calls hg hr (by first | omega | (simp only [bsz_left, bsz_put, bsz_as, bsz_pass, bsz_right, bsz_fin, bsz_b0, Txt0.size_list, ba_list, lf_lng, rd3]; omega)) (by decide) (by (omega)) (by (assumption))) (fun r hr => ?_)) | (show Jo _ (.call ⟨.value (.func 24), _, _⟩); refine jcall0 (v := .bool true) (bkS g _ r []) bo19 rfl rfl rfl (tells_calls hW hr _ _ (by (simp [bsz_left, bsz_put, bsz_as, bsz_pass, bsz_right, bsz_fin, bsz_b0, Txt0.size_list, ba_list, lf_lng, rd3]; omega)) htell) ?_))))
      exact post _ _ rfl
end Go.Proofs.YtkehggbmpdacpabGreatDoor.Pg
namespace Go.Proofs.YtkehggbmpdacpabGreatDoor.PFnIndented
open Go.Rx Go.RowKit Go.Proofs.YtkehggbmpdacpabGreatDoorW.PrintWords
theorem laws_FnIndented.calls (a0 : Bool) (a1 : ByteArray) (a2 : Int) (a3 : ByteArray) (ret_ : Bool) (w : World)  (h : ret_ = true ∧ a1.size ≤ 140737488351232 ∧ (0 ≤ a2 ∧ a2 ≤ 255) ∧ a3.size ≤ 140737488351232 ∧ Pg.Tab w) :
    Calls Tryz.prog 6 #[.bool a0, .string a1, .int .u8 a2, .string a3] w fun e w' => e = .returned (.bool ret_) ∧ Below w.heap.size w w' := by
  obtain ⟨rfl, h1, h2, h3, hT⟩ := h
  exact Pg.indented_calls a0 a1 a2 a3 w hT h1 h2 h3
end Go.Proofs.YtkehggbmpdacpabGreatDoor.PFnIndented
