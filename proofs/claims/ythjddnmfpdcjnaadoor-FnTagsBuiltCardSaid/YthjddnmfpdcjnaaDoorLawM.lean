/- Lists of texts in the small logic's words; what the laws' zzFits3 answers; a text built of tags with text between, and what a scanner tells of it. -/
import Derived.Test.YthjddnmfpdcjnaaDoorLawE
set_option linter.unusedVariables false
namespace Go.Rx
open Go.RowKit
theorem rebase {X : Cx} {q : Act → World → Prop} {f : Fr} {m : Mem} (S' : Nat → Prop) (h : ∀ w1, Has m w1 → Evo X.S X.w0 w1 → PJ ⟨X.n, X.D, S', w1⟩ q f m) : PJ X q f m := .of fun a w s => (h w s.has s.evo).out a w ⟨s.agr, s.has, Evo.refl _ _⟩
theorem jrebase {X : Cx} {P : Program} {ops : Array Oper} {Q : Exit → Act → World → Prop} {K : Act → World → Prop} {l : List Oper} {f : Fr} {m : Mem} (S' : Nat → Prop) (h : ∀ w1, Has m w1 → Evo X.S X.w0 w1 → J false ⟨X.n, X.D, S', w1⟩ P ops Q K l f m) : J false X P ops Q K l f m := ⟨fun a w s => (h w s.has s.evo).out a w ⟨s.agr, s.has, Evo.refl _ _⟩⟩
theorem yfieldA {X : Cx} {P : Program} {f : Fr} {m : Mem} {ty : TypeId} {pos : String} {af : Array Edge} {gd : Option (Nat × Bool)} {d : Option Tmp} {x : Operand} {s i e : Nat} {p p' : Addr} (hx : evF f x = some (.pointer (some p))) (hf : fieldB P s i = some e) (ho : p.add e = p') : Yl X P f m ⟨d, .fieldAddr s x i, ty, pos, af, gd⟩ (.pointer (some p')) := .of fun a w st => by
  subst ho
  unfold fieldB at hf
  split at hf
  · rename_i fs hu
    split at hf
    · rename_i fl hfl
      split at hf
      · rename_i inf hi
        simp only [cond_eq_ite, Nat.beq_eq] at hf
        split at hf
        · cases hf
        · rename_i hz
          obtain rfl := Option.some.inj hf
          simp [execOp, st.agr.eval hx, Instr.fieldAt, run_underlying hu, hfl, Instr.sureAddr, fieldPlace, sizeOf, typeInfo, hi, hz]
      · cases hf
    · cases hf
  · cases hf
theorem Has.perm {m m' : Mem} {w : World} (h : Has m w) (hp : m.Perm m') : Has m' w := ⟨(hp.map _).nodup_iff.1 h.ne, fun x hx => h.blk x (hp.mem_iff.2 hx)⟩
theorem jperm {X : Cx} {P : Program} {ops : Array Oper} {Q : Exit → Act → World → Prop} {K : Act → World → Prop} {l : List Oper} {f : Fr} {m m' : Mem} (hp : m.Perm m') (h : J false X P ops Q K l f m') : J false X P ops Q K l f m := ⟨fun a w s => h.out a w ⟨s.agr, s.has.perm hp, s.evo⟩⟩
theorem add_add (a : Addr) (i j : Nat) : (a.add i).add j = a.add (i + j) := by
  unfold Addr.add
  by_cases hi : i = 0 <;> by_cases hj : j = 0 <;> simp [hi, hj, Nat.add_assoc]
/-- Where the cells of a row lie. -/
theorem row_cells {m : Mem} {w : World} {row : Row} {n B size : Nat} {xs : List Value} {e : TypeId} (hw : Has m w) (hm : ∀ x ∈ row.mem xs e, x ∈ m) (hok : row.ok B size n xs) : ∃ A c, row.val n = .slice A n c ∧ ∀ (i : Nat) v, xs[i]? = some v → ∃ ad, A = some ad ∧ w.cell? (ad.add i) = some v := by
  cases row with
  | nil =>
    obtain ⟨h1, h2⟩ := hok
    exact ⟨none, 0, by rw [h1]; rfl, fun i v hv => by rw [h2] at hv; simp at hv⟩
  | «at» g cap rr =>
    refine ⟨some ⟨g, 0, none⟩, cap, rfl, fun i v hv => ⟨_, rfl, ?_⟩⟩
    have hadd : (⟨g, 0, none⟩ : Addr).add i = ⟨g, i, none⟩ := by unfold Addr.add; split <;> simp_all
    have hb := hw.blk (g, xs ++ rr, e) (hm _ (by simp [Row.mem]))
    rw [hadd]
    simp only [World.cell?, hb]
    rw [List.getElem?_toArray, List.getElem?_append_left (List.getElem?_eq_some_iff.1 hv).1, hv]
    simp
end Go.Rx
namespace Go.Proofs.YthjddnmfpdcjnaaDoor.LawM
open Go.Rx hiding bt
open Go.RowKit Go.Proofs.YthjddnmfpdcjnaaDoorW.PrintWords Go.Proofs.YthjddnmfpdcjnaaDoor.Lib0 Go.Proofs.YthjddnmfpdcjnaaDoor.Tag0 Go.Proofs.YthjddnmfpdcjnaaDoor.NextW Go.Proofs.YthjddnmfpdcjnaaDoor.Has0L6 Go.Proofs.YthjddnmfpdcjnaaDoor.LawA Go.Proofs.YthjddnmfpdcjnaaDoor.LawB Go.Proofs.YthjddnmfpdcjnaaDoor.TxtA Go.Proofs.YthjddnmfpdcjnaaDoor.LawC Go.Proofs.YthjddnmfpdcjnaaDoor.TagV Go.Proofs.YthjddnmfpdcjnaaDoor.LawD Go.Proofs.YthjddnmfpdcjnaaDoor.LawE

/-! ### lists of texts -/
def StrAt (w : World) (A : Option Addr) (l : List ByteArray) : Prop := ∀ (j : Nat) x, l[j]? = some x → ∃ ad, A = some ad ∧ w.cell? (ad.add (j * 1)) = some (.string x)
theorem strAt_of {w : World} {A : Option Addr} {n : Nat} {l : List ByteArray} (h : Kd.C Kd.string w A n l) : StrAt w A l := by
  intro j x hx
  obtain ⟨h1, h2, h3⟩ := Kd.reads_of_C (d := ByteArray.empty) h
  obtain ⟨h4, h5⟩ := List.getElem?_eq_some_iff.1 hx
  obtain ⟨ad, e, hc⟩ := h3 (by omega)
  refine ⟨ad, e, ?_⟩
  have := hc j (by omega)
  rw [Nat.mul_one, this, Lib0.getD_in _ _ _ h4, h5]
def fits3 (l : List ByteArray) : Bool := decide (l.length ≤ 2147483647) && l.all fun x => decide (x.size ≤ 2147483647)
theorem fits3_len {l : List ByteArray} (h : fits3 l = true) : l.length ≤ 2147483647 := by
  unfold fits3 at h
  simp only [Bool.and_eq_true, decide_eq_true_eq] at h
  exact h.1
theorem fits3_all {l : List ByteArray} (h : fits3 l = true) : ∀ x ∈ l, x.size ≤ 2147483647 := by
  unfold fits3 at h
  simp only [Bool.and_eq_true, decide_eq_true_eq, List.all_eq_true] at h
  exact h.2
theorem und37 : Tryd.prog.underlying 37 = some (.slice 9) := by kernel_rfl
theorem sz9 : szB Tryd.prog 9 1 = true := by kernel_rfl
theorem bo23 : bodyB Tryd.prog 23 = true := by kernel_rfl
set_option maxHeartbeats 1000000 in
set_option maxRecDepth 100000 in
theorem fits3_calls (l : List ByteArray) (A : Option Addr) (c : Nat) (w : World) (ha : StrAt w A l) (hl : l.length ≤ 9223372036854775806) :
    Calls Tryd.prog 23 #[.slice A l.length c] w fun e w' => e = .returned (.bool (fits3 l)) ∧ Below w.heap.size w w' := by
  refine enter (fun _ => False) 18 [] Tryd.func23 rfl rfl rfl (vs := [.slice A l.length c]) (Has.nil _) ?_
  conv => arg 2; arg 2; whnf
  have post : ∀ (f : Fr) (m : Mem), Rx.look f 2 = some (.bool (fits3 l)) → PJ ⟨18, [], fun _ => False, w⟩ (bodyPost Tryd.prog Tryd.f23 (fun e w' => e = .returned (.bool (fits3 l)) ∧ Below w.heap.size w w') .ret) f m := fun f m hf =>
    ret1 rfl rfl hf (fun w' hw' => ⟨rfl, hw'.2.below (fun k _ h => h) (Nat.le_refl _)⟩)
  have no : ¬ fits3 l = true → fits3 l = false := fun h => by simpa using h
  repeat' (first | (show PJ _ (Code.wp _ _ _) _ _; first | refine cseq ?_ | refine rtext ?_ | refine ctrue rfl ?_ | refine cfalse rfl ?_ | refine cskip ?_ | refine cblk ?_ | refine cret ?_ | refine cexit ?_ | refine csplit' rfl (fun hq => ?_) (fun hq => ?_)  | refine rquiet mixed (by kernel_rfl) ?_) | (show PJ _ (Exit.then _ _ _) _ _; first | refine tnorm ?_ | refine tret ?_ | refine texit ?_) | (show PJ _ (Exit.inBlock _ _ _) _ _; first | refine bnorm ?_ | refine bret ?_ | refine bexit ?_ | refine bother rfl ?_) | (show PJ _ (wpList _ _ _ _) _ _; refine jlist ?_) | (show J _ _ _ _ _ _ [] _ _; refine jnil ?_) | (show J _ _ _ _ _ _ (_ :: _) _ _; first | refine js rfl rfl ?_ | (show J _ _ _ _ _ _ (⟨_, .move _, _, _, _, _⟩ :: _) _ _; refine jy (ymove rfl) rfl rfl ?_) | (show J _ _ _ _ _ _ (⟨_, .nilCheck _, _, _, _, _⟩ :: _) _ _; refine jy (ynil rfl) rfl rfl ?_) | (show J _ _ _ _ _ _ (⟨_, .fieldAddr _ _ _, _, _, _, _⟩ :: _) _ _; refine jy (yfield rfl (by first | exact fb27_0 | exact fb27_1 | exact fb27_2 | exact fb32_0 | exact fb32_1 | exact fb32_2 | exact fb53_0 | exact fb53_1 | exact fb53_2 | exact fb53_3 | exact fb30_0 | exact fb30_1 | exact fb30_2 | exact fb30_3) rfl) rfl rfl ?_) | (show J _ _ _ _ _ _ (⟨_, .load _ _, _, _, _, _⟩ :: _) _ _; first | refine jy (yload (i := 0) rfl rfl rfl (by first | exact one3 | exact one9 | exact one4 | exact one51)) rfl rfl ?_ | refine jy (yload (i := 1) rfl rfl rfl (by first | exact one3 | exact one9 | exact one4 | exact one51)) rfl rfl ?_ | refine jy (yloads (i := 0) rfl rfl (by first | exact ag53 | exact ag27 | exact ag32)) rfl rfl ?_ | refine jy (yload (i := 2) rfl rfl rfl (by first | exact one3 | exact one9 | exact one4 | exact one51)) rfl rfl ?_ | refine jy (yload (i := 3) rfl rfl rfl (by first | exact one3 | exact one9 | exact one4 | exact one51)) rfl rfl ?_ | refine jy (yloads (i := 1) rfl rfl (by first | exact ag53 | exact ag27 | exact ag32)) rfl rfl ?_) | (show J _ _ _ _ _ _ (⟨_, .assign _, _, _, _, _⟩ :: _) _ _; refine jy (yassign rfl) rfl rfl ?_) | (show J _ _ _ _ _ _ (⟨_, .binOp _ _ _ _ _, _, _, _, _⟩ :: _) _ _; first | refine jy (ygtr rfl rfl (by first | exact decide_eq_true (by omega) | exact decide_eq_false (by omega))) rfl rfl ?_ | refine jgtr rfl rfl rfl rfl (fun hq => ?_) (fun hq => ?_) | refine jy (yadd rfl rfl (i64_in (by omega) (by omega))) rfl rfl ?_ | refine jy (ylss rfl rfl (by first | exact decide_eq_true (by omega) | exact decide_eq_false (by omega))) rfl rfl ?_ | refine jlss rfl rfl rfl rfl (fun hq => ?_) (fun hq => ?_) | refine jy (yeql rfl rfl (by first | exact decide_eq_true (by omega) | exact decide_eq_false (by omega))) rfl rfl ?_ | refine jeql rfl rfl rfl rfl (fun hq => ?_) (fun hq => ?_) | refine jy (ygeq rfl rfl (by first | exact decide_eq_true (by omega) | exact decide_eq_false (by omega))) rfl rfl ?_ | refine jgeq rfl rfl rfl rfl (fun hq => ?_) (fun hq => ?_)) | (show J _ _ _ _ _ _ (⟨_, .store _ _ _, _, _, _, _⟩ :: _) _ _; first | refine jstore (i := 0) rfl rfl rfl rfl rfl (by first | exact si3 | exact si9 | exact si51 | exact si4 | exact si53 | exact si27 | exact si49) (by first | exact hS | exact .inr hT) ?_ | refine jstore (i := 1) rfl rfl rfl rfl rfl (by first | exact si3 | exact si9 | exact si51 | exact si4 | exact si53 | exact si27 | exact si49) (by first | exact hS | exact .inr hT) ?_ | refine jstores (i := 0) rfl rfl rfl rfl rfl (by first | exact si3 | exact si9 | exact si51 | exact si4 | exact si53 | exact si27 | exact si49) (.inr hT) ?_ | refine jstores (i := 0) rfl rfl rfl rfl rfl (by first | exact si27 | exact si49 | exact si53) (.inr (by assumption)) ?_ | refine jstorep (i := 1) rfl rfl rfl rfl rfl sz30 (.inr (by assumption)) ?_ | refine jstore (i := 0) rfl rfl rfl rfl rfl (by first | exact si3 | exact si4) (.inr (by assumption)) ?_ | refine jstore (i := 1) rfl rfl rfl rfl rfl (by first | exact si3 | exact si4) (.inr (by assumption)) ?_) | (show J _ _ _ _ _ _ (⟨_, .pick _ _ _, _, _, _, _⟩ :: _) _ _; first | refine jy (ypick1 rfl rfl) rfl rfl ?_ | refine jy (ypick0 rfl rfl) rfl rfl ?_) | (show J _ _ _ _ _ _ (⟨_, .unOp _ _ _, _, _, _, _⟩ :: _) _ _; refine jy (ynot rfl rfl) rfl rfl ?_) | (show J _ _ _ _ _ _ (⟨_, .index _ _ _, _, _, _, _⟩ :: _) _ _; refine jy (yidx (c := bt _ _) rfl rfl und9 (by omega) (by omega) rfl) rfl rfl ?_) | (show J _ _ _ _ _ _ (⟨_, .slice _ _ _ _ _, _, _, _, _⟩ :: _) _ _; refine jy (yslice rfl rfl rfl und9 (by omega) (by omega) (by omega) rfl) rfl rfl ?_) | (show J _ _ _ _ _ _ (⟨_, .call _, _, _, _, _⟩ :: _) _ _; first | refine jy (ylenl rfl und37) rfl rfl ?_ | refine jy (ylens rfl und9) rfl rfl ?_) | (show J _ _ _ _ _ _ (⟨_, .extract _ _, _, _, _, _⟩ :: _) _ _; refine jy (yextractL rfl rfl) rfl rfl ?_)  | (show J _ _ _ _ _ _ (⟨_, .build _ _, _, _, _, _⟩ :: _) _ _; refine jy (ybuild rfl (by first | exact bu0 | exact bu3 _)) rfl rfl ?_)))
  · exact post _ _ (by rw [no (fun h => by have := fits3_len h; omega)]; rfl)
  refine fin (f' := [(8, .slice A l.length c), (9, .int .i64 l.length), (10, .int .i64 0)]) (m' := [])
    (cloop (ι := Nat) (fun j => [(8, .slice A l.length c), (9, .int .i64 l.length), (10, .int .i64 (j : Nat))]) (fun _ => []) (fun k j => j ≤ l.length ∧ k = l.length - j ∧ ∀ i x, i < j → l[i]? = some x → x.size ≤ 2147483647) l.length 0 ⟨Nat.zero_le _, rfl, fun i x h => absurd h (Nat.not_lt_zero _)⟩ ?_) ⟨rfl, rfl, rfl, trivial⟩ rfl
  rintro k j ⟨hj, rfl, hall⟩ K hK
  by_cases hlt : j < l.length
  · obtain ⟨x, hx⟩ : ∃ x, l[j]? = some x := ⟨_, List.getElem?_eq_getElem hlt⟩
    obtain ⟨ad, rfl, hc⟩ := ha j x hx
    repeat' (first | (show J _ _ _ _ _ _ (⟨_, .indexAddr _ _ _, _, _, _, _⟩ :: _) _ _; refine jy (yat (p' := ad.add (j * 1)) rfl rfl und37 sz9 (by omega) (by omega) rfl) rfl rfl ?_) | (show J _ _ _ _ _ _ (⟨_, .load 9 _, _, _, _, _⟩ :: _) _ _; refine jy (yloadw rfl hc (fun h => h) one9) rfl rfl ?_) | first | (show PJ _ (Code.wp _ _ _) _ _; first | refine cseq ?_ | refine rtext ?_ | refine ctrue rfl ?_ | refine cfalse rfl ?_ | refine cskip ?_ | refine cblk ?_ | refine cret ?_ | refine cexit ?_ | refine csplit' rfl (fun hq => ?_) (fun hq => ?_)  | refine rquiet mixed (by kernel_rfl) ?_) | (show PJ _ (Exit.then _ _ _) _ _; first | refine tnorm ?_ | refine tret ?_ | refine texit ?_) | (show PJ _ (Exit.inBlock _ _ _) _ _; first | refine bnorm ?_ | refine bret ?_ | refine bexit ?_ | refine bother rfl ?_) | (show PJ _ (wpList _ _ _ _) _ _; refine jlist ?_) | (show J _ _ _ _ _ _ [] _ _; refine jnil ?_) | (show J _ _ _ _ _ _ (_ :: _) _ _; first | refine js rfl rfl ?_ | (show J _ _ _ _ _ _ (⟨_, .move _, _, _, _, _⟩ :: _) _ _; refine jy (ymove rfl) rfl rfl ?_) | (show J _ _ _ _ _ _ (⟨_, .nilCheck _, _, _, _, _⟩ :: _) _ _; refine jy (ynil rfl) rfl rfl ?_) | (show J _ _ _ _ _ _ (⟨_, .fieldAddr _ _ _, _, _, _, _⟩ :: _) _ _; refine jy (yfield rfl (by first | exact fb27_0 | exact fb27_1 | exact fb27_2 | exact fb32_0 | exact fb32_1 | exact fb32_2 | exact fb53_0 | exact fb53_1 | exact fb53_2 | exact fb53_3 | exact fb30_0 | exact fb30_1 | exact fb30_2 | exact fb30_3) rfl) rfl rfl ?_) | (show J _ _ _ _ _ _ (⟨_, .load _ _, _, _, _, _⟩ :: _) _ _; first | refine jy (yload (i := 0) rfl rfl rfl (by first | exact one3 | exact one9 | exact one4 | exact one51)) rfl rfl ?_ | refine jy (yload (i := 1) rfl rfl rfl (by first | exact one3 | exact one9 | exact one4 | exact one51)) rfl rfl ?_ | refine jy (yloads (i := 0) rfl rfl (by first | exact ag53 | exact ag27 | exact ag32)) rfl rfl ?_ | refine jy (yload (i := 2) rfl rfl rfl (by first | exact one3 | exact one9 | exact one4 | exact one51)) rfl rfl ?_ | refine jy (yload (i := 3) rfl rfl rfl (by first | exact one3 | exact one9 | exact one4 | exact one51)) rfl rfl ?_ | refine jy (yloads (i := 1) rfl rfl (by first | exact ag53 | exact ag27 | exact ag32)) rfl rfl ?_) | (show J _ _ _ _ _ _ (⟨_, .assign _, _, _, _, _⟩ :: _) _ _; refine jy (yassign rfl) rfl rfl ?_) | (show J _ _ _ _ _ _ (⟨_, .binOp _ _ _ _ _, _, _, _, _⟩ :: _) _ _; first | refine jy (yadd (c := ((j + 1 : Nat) : Int)) rfl rfl (by rw [i64_in (by omega) (by omega)]; omega)) rfl rfl ?_ | refine jy (ygtr rfl rfl (by first | exact decide_eq_true (by omega) | exact decide_eq_false (by omega))) rfl rfl ?_ | refine jgtr rfl rfl rfl rfl (fun hq => ?_) (fun hq => ?_) | refine jy (yadd rfl rfl (i64_in (by omega) (by omega))) rfl rfl ?_ | refine jy (ylss rfl rfl (by first | exact decide_eq_true (by omega) | exact decide_eq_false (by omega))) rfl rfl ?_ | refine jlss rfl rfl rfl rfl (fun hq => ?_) (fun hq => ?_) | refine jy (yeql rfl rfl (by first | exact decide_eq_true (by omega) | exact decide_eq_false (by omega))) rfl rfl ?_ | refine jeql rfl rfl rfl rfl (fun hq => ?_) (fun hq => ?_) | refine jy (ygeq rfl rfl (by first | exact decide_eq_true (by omega) | exact decide_eq_false (by omega))) rfl rfl ?_ | refine jgeq rfl rfl rfl rfl (fun hq => ?_) (fun hq => ?_)) | (show J _ _ _ _ _ _ (⟨_, .store _ _ _, _, _, _, _⟩ :: _) _ _; first | refine jstore (i := 0) rfl rfl rfl rfl rfl (by first | exact si3 | exact si9 | exact si51 | exact si4 | exact si53 | exact si27 | exact si49) (by first | exact hS | exact .inr hT) ?_ | refine jstore (i := 1) rfl rfl rfl rfl rfl (by first | exact si3 | exact si9 | exact si51 | exact si4 | exact si53 | exact si27 | exact si49) (by first | exact hS | exact .inr hT) ?_ | refine jstores (i := 0) rfl rfl rfl rfl rfl (by first | exact si3 | exact si9 | exact si51 | exact si4 | exact si53 | exact si27 | exact si49) (.inr hT) ?_ | refine jstores (i := 0) rfl rfl rfl rfl rfl (by first | exact si27 | exact si49 | exact si53) (.inr (by assumption)) ?_ | refine jstorep (i := 1) rfl rfl rfl rfl rfl sz30 (.inr (by assumption)) ?_ | refine jstore (i := 0) rfl rfl rfl rfl rfl (by first | exact si3 | exact si4) (.inr (by assumption)) ?_ | refine jstore (i := 1) rfl rfl rfl rfl rfl (by first | exact si3 | exact si4) (.inr (by assumption)) ?_) | (show J _ _ _ _ _ _ (⟨_, .pick _ _ _, _, _, _, _⟩ :: _) _ _; first | refine jy (ypick1 rfl rfl) rfl rfl ?_ | refine jy (ypick0 rfl rfl) rfl rfl ?_) | (show J _ _ _ _ _ _ (⟨_, .unOp _ _ _, _, _, _, _⟩ :: _) _ _; refine jy (ynot rfl rfl) rfl rfl ?_) | (show J _ _ _ _ _ _ (⟨_, .index _ _ _, _, _, _, _⟩ :: _) _ _; refine jy (yidx (c := bt _ _) rfl rfl und9 (by omega) (by omega) rfl) rfl rfl ?_) | (show J _ _ _ _ _ _ (⟨_, .slice _ _ _ _ _, _, _, _, _⟩ :: _) _ _; refine jy (yslice rfl rfl rfl und9 (by omega) (by omega) (by omega) rfl) rfl rfl ?_) | (show J _ _ _ _ _ _ (⟨_, .call _, _, _, _, _⟩ :: _) _ _; first | refine jy (ylenl rfl und37) rfl rfl ?_ | refine jy (ylens rfl und9) rfl rfl ?_) | (show J _ _ _ _ _ _ (⟨_, .extract _ _, _, _, _, _⟩ :: _) _ _; refine jy (yextractL rfl rfl) rfl rfl ?_)  | (show J _ _ _ _ _ _ (⟨_, .build _ _, _, _, _, _⟩ :: _) _ _; refine jy (ybuild rfl (by first | exact bu0 | exact bu3 _)) rfl rfl ?_)))
    · exact post _ _ (by rw [no (fun h => by have := fits3_all h x (List.mem_of_getElem? hx); omega)]; rfl)
    · exact fin (hK (l.length - (j + 1)) (j + 1) (by omega) ⟨by omega, rfl, fun i y hi hy => by
        rcases Nat.lt_succ_iff_lt_or_eq.1 hi with h | h
        · exact hall i y h hy
        · subst h; rw [hx] at hy; cases hy; omega⟩) ⟨rfl, rfl, rfl, trivial⟩ rfl
  · obtain rfl : j = l.length := by omega
    repeat' (first | (show PJ _ (Code.wp _ _ _) _ _; first | refine cseq ?_ | refine rtext ?_ | refine ctrue rfl ?_ | refine cfalse rfl ?_ | refine cskip ?_ | refine cblk ?_ | refine cret ?_ | refine cexit ?_ | refine csplit' rfl (fun hq => ?_) (fun hq => ?_)  | refine rquiet mixed (by kernel_rfl) ?_) | (show PJ _ (Exit.then _ _ _) _ _; first | refine tnorm ?_ | refine tret ?_ | refine texit ?_) | (show PJ _ (Exit.inBlock _ _ _) _ _; first | refine bnorm ?_ | refine bret ?_ | refine bexit ?_ | refine bother rfl ?_) | (show PJ _ (wpList _ _ _ _) _ _; refine jlist ?_) | (show J _ _ _ _ _ _ [] _ _; refine jnil ?_) | (show J _ _ _ _ _ _ (_ :: _) _ _; first | refine js rfl rfl ?_ | (show J _ _ _ _ _ _ (⟨_, .move _, _, _, _, _⟩ :: _) _ _; refine jy (ymove rfl) rfl rfl ?_) | (show J _ _ _ _ _ _ (⟨_, .nilCheck _, _, _, _, _⟩ :: _) _ _; refine jy (ynil rfl) rfl rfl ?_) | (show J _ _ _ _ _ _ (⟨_, .fieldAddr _ _ _, _, _, _, _⟩ :: _) _ _; refine jy (yfield rfl (by first | exact fb27_0 | exact fb27_1 | exact fb27_2 | exact fb32_0 | exact fb32_1 | exact fb32_2 | exact fb53_0 | exact fb53_1 | exact fb53_2 | exact fb53_3 | exact fb30_0 | exact fb30_1 | exact fb30_2 | exact fb30_3) rfl) rfl rfl ?_) | (show J _ _ _ _ _ _ (⟨_, .load _ _, _, _, _, _⟩ :: _) _ _; first | refine jy (yload (i := 0) rfl rfl rfl (by first | exact one3 | exact one9 | exact one4 | exact one51)) rfl rfl ?_ | refine jy (yload (i := 1) rfl rfl rfl (by first | exact one3 | exact one9 | exact one4 | exact one51)) rfl rfl ?_ | refine jy (yloads (i := 0) rfl rfl (by first | exact ag53 | exact ag27 | exact ag32)) rfl rfl ?_ | refine jy (yload (i := 2) rfl rfl rfl (by first | exact one3 | exact one9 | exact one4 | exact one51)) rfl rfl ?_ | refine jy (yload (i := 3) rfl rfl rfl (by first | exact one3 | exact one9 | exact one4 | exact one51)) rfl rfl ?_ | refine jy (yloads (i := 1) rfl rfl (by first | exact ag53 | exact ag27 | exact ag32)) rfl rfl ?_) | (show J _ _ _ _ _ _ (⟨_, .assign _, _, _, _, _⟩ :: _) _ _; refine jy (yassign rfl) rfl rfl ?_) | (show J _ _ _ _ _ _ (⟨_, .binOp _ _ _ _ _, _, _, _, _⟩ :: _) _ _; first | refine jy (ygtr rfl rfl (by first | exact decide_eq_true (by omega) | exact decide_eq_false (by omega))) rfl rfl ?_ | refine jgtr rfl rfl rfl rfl (fun hq => ?_) (fun hq => ?_) | refine jy (yadd rfl rfl (i64_in (by omega) (by omega))) rfl rfl ?_ | refine jy (ylss rfl rfl (by first | exact decide_eq_true (by omega) | exact decide_eq_false (by omega))) rfl rfl ?_ | refine jlss rfl rfl rfl rfl (fun hq => ?_) (fun hq => ?_) | refine jy (yeql rfl rfl (by first | exact decide_eq_true (by omega) | exact decide_eq_false (by omega))) rfl rfl ?_ | refine jeql rfl rfl rfl rfl (fun hq => ?_) (fun hq => ?_) | refine jy (ygeq rfl rfl (by first | exact decide_eq_true (by omega) | exact decide_eq_false (by omega))) rfl rfl ?_ | refine jgeq rfl rfl rfl rfl (fun hq => ?_) (fun hq => ?_)) | (show J _ _ _ _ _ _ (⟨_, .store _ _ _, _, _, _, _⟩ :: _) _ _; first | refine jstore (i := 0) rfl rfl rfl rfl rfl (by first | exact si3 | exact si9 | exact si51 | exact si4 | exact si53 | exact si27 | exact si49) (by first | exact hS | exact .inr hT) ?_ | refine jstore (i := 1) rfl rfl rfl rfl rfl (by first | exact si3 | exact si9 | exact si51 | exact si4 | exact si53 | exact si27 | exact si49) (by first | exact hS | exact .inr hT) ?_ | refine jstores (i := 0) rfl rfl rfl rfl rfl (by first | exact si3 | exact si9 | exact si51 | exact si4 | exact si53 | exact si27 | exact si49) (.inr hT) ?_ | refine jstores (i := 0) rfl rfl rfl rfl rfl (by first | exact si27 | exact si49 | exact si53) (.inr (by assumption)) ?_ | refine jstorep (i := 1) rfl rfl rfl rfl rfl sz30 (.inr (by assumption)) ?_ | refine jstore (i := 0) rfl rfl rfl rfl rfl (by first | exact si3 | exact si4) (.inr (by assumption)) ?_ | refine jstore (i := 1) rfl rfl rfl rfl rfl (by first | exact si3 | exact si4) (.inr (by assumption)) ?_) | (show J _ _ _ _ _ _ (⟨_, .pick _ _ _, _, _, _, _⟩ :: _) _ _; first | refine jy (ypick1 rfl rfl) rfl rfl ?_ | refine jy (ypick0 rfl rfl) rfl rfl ?_) | (show J _ _ _ _ _ _ (⟨_, .unOp _ _ _, _, _, _, _⟩ :: _) _ _; refine jy (ynot rfl rfl) rfl rfl ?_) | (show J _ _ _ _ _ _ (⟨_, .index _ _ _, _, _, _, _⟩ :: _) _ _; refine jy (yidx (c := bt _ _) rfl rfl und9 (by omega) (by omega) rfl) rfl rfl ?_) | (show J _ _ _ _ _ _ (⟨_, .slice _ _ _ _ _, _, _, _, _⟩ :: _) _ _; refine jy (yslice rfl rfl rfl und9 (by omega) (by omega) (by omega) rfl) rfl rfl ?_) | (show J _ _ _ _ _ _ (⟨_, .call _, _, _, _, _⟩ :: _) _ _; first | refine jy (ylenl rfl und37) rfl rfl ?_ | refine jy (ylens rfl und9) rfl rfl ?_) | (show J _ _ _ _ _ _ (⟨_, .extract _ _, _, _, _, _⟩ :: _) _ _; refine jy (yextractL rfl rfl) rfl rfl ?_)  | (show J _ _ _ _ _ _ (⟨_, .build _ _, _, _, _, _⟩ :: _) _ _; refine jy (ybuild rfl (by first | exact bu0 | exact bu3 _)) rfl rfl ?_)))
    refine post _ _ ?_
    have : fits3 l = true := by
      unfold fits3
      simp only [Bool.and_eq_true, decide_eq_true_eq, List.all_eq_true]
      exact ⟨by omega, fun x hx => by obtain ⟨i, hi⟩ := List.getElem?_of_mem hx; exact hall i x (List.getElem?_eq_some_iff.1 hi).1 hi⟩
    rw [this]; rfl
theorem fits3C (l : List ByteArray) (A : Option Addr) (c : Nat) (hl : l.length ≤ 9223372036854775806) (X : Cx) (m : Mem) (hS : ∀ k, ¬ X.S k) (ha : StrAt X.w0 A l) : ∀ w, Cl X m w → Calls Tryd.prog 23 #[.slice A l.length c] w fun e w' => e = .returned (.bool (fits3 l)) ∧ Cl X m w' :=
  quietC fun w hw => fits3_calls l A c w (fun j x hx => by
    obtain ⟨ad, e, hc⟩ := ha j x hx
    refine ⟨ad, e, ?_⟩
    have hlt : (ad.add (j * 1)).block < X.w0.heap.size := by
      rcases Nat.lt_or_ge (ad.add (j * 1)).block X.w0.heap.size with h | h
      · exact h
      · unfold World.cell? at hc; rw [Array.getElem?_eq_none h] at hc; cases hc
    unfold World.cell? at hc ⊢
    rw [hw.2.block _ hlt (hS _)]
    exact hc) hl

/-! ### a text built of tags -/
def tg (n : ByteArray) : ByteArray := ⟨#[60]⟩ ++ n ++ ⟨#[62]⟩
theorem tg_size (n : ByteArray) : (tg n).size = n.size + 2 := by
  have z1 : (⟨#[60]⟩ : ByteArray).size = 1 := rfl
  have z2 : (⟨#[62]⟩ : ByteArray).size = 1 := rfl
  simp only [tg, ByteArray.size_append, z1, z2]; omega
def tx (t : ByteArray) (l : List ByteArray) : ByteArray := l.foldl (fun s n => s ++ tg n ++ t) t
theorem tx_snoc (t : ByteArray) (l : List ByteArray) (n : ByteArray) : tx t (l ++ [n]) = tx t l ++ tg n ++ t := by simp [tx]
theorem take_snoc {l : List ByteArray} {j : Nat} {n : ByteArray} (h : l[j]? = some n) : l.take (j + 1) = l.take j ++ [n] := by rw [List.take_add_one, h]; rfl
theorem tx_size (t : ByteArray) (l : List ByteArray) (n : ByteArray) : (tx t (l ++ [n])).size = (tx t l).size + n.size + 2 + t.size := by
  rw [tx_snoc, ByteArray.size_append, ByteArray.size_append, tg_size]; omega
theorem tx_ge (t : ByteArray) (l : List ByteArray) (j : Nat) : t.size ≤ (tx t (l.take j)).size := by
  induction j with
  | zero => simp [tx]
  | succ j ih =>
    by_cases h : j < l.length
    · rw [take_snoc (List.getElem?_eq_getElem h), tx_size]; omega
    · rw [List.take_of_length_le (by omega)] at ih ⊢; exact ih
theorem tx_at (t : ByteArray) (l : List ByteArray) : ∀ k j, j + k = l.length → At (tx t l) (tx t (l.take j)) 0 := by
  intro k
  induction k with
  | zero => intro j hj; rw [List.take_of_length_le (by omega)]; exact At.self _
  | succ k ih =>
    intro j hj
    have h := ih (j + 1) (by omega)
    rw [take_snoc (List.getElem?_eq_getElem (by omega)), tx_snoc] at h
    exact h.left.left
/-- Where the text ahead of tag j begins. -/
def pj (t : ByteArray) (l : List ByteArray) (j : Nat) : Nat := (tx t (l.take j)).size - t.size
theorem tx_mid (t : ByteArray) (l : List ByteArray) (j : Nat) (hj : j ≤ l.length) : At (tx t l) t (pj t l j) := by
  have h := tx_at t l (l.length - j) j (by omega)
  cases j with
  | zero =>
    have : pj t l 0 = 0 := by simp [pj, tx]
    rw [this]; exact h
  | succ j =>
    have e := take_snoc (l := l) (j := j) (List.getElem?_eq_getElem (by omega))
    have : pj t l (j + 1) = (tx t (l.take j) ++ tg l[j]).size := by
      rw [pj, e, tx_size, ByteArray.size_append, tg_size]; omega
    rw [this]
    rw [e, tx_snoc] at h
    have h2 := h.right
    rw [Nat.zero_add] at h2
    exact h2
theorem tx_tag (t : ByteArray) (l : List ByteArray) (j : Nat) (n : ByteArray) (hn : l[j]? = some n) : At (tx t l) (tg n) (tx t (l.take j)).size := by
  have hj := (List.getElem?_eq_some_iff.1 hn).1
  have h := tx_at t l (l.length - (j + 1)) (j + 1) (by omega)
  rw [take_snoc hn, tx_snoc] at h
  have h2 := h.left.right
  rw [Nat.zero_add] at h2
  exact h2
def tk (t : ByteArray) (l : List ByteArray) (j : Nat) : NextW.Told := ⟨1, lowB (l.getD j ByteArray.empty), false, ((tx t (l.take j)).size : Nat), true, (tx t (l.take j)).size + (l.getD j ByteArray.empty).size + 2⟩
theorem pj_succ (t : ByteArray) (l : List ByteArray) (j : Nat) (n : ByteArray) (hn : l[j]? = some n) : pj t l (j + 1) = (tx t (l.take j)).size + n.size + 2 := by
  rw [pj, take_snoc hn, tx_size]; omega
theorem getD_of {l : List ByteArray} {j : Nat} {n : ByteArray} (hn : l[j]? = some n) : l.getD j ByteArray.empty = n := by
  obtain ⟨h1, h2⟩ := List.getElem?_eq_some_iff.1 hn
  rw [Lib0.getD_in _ _ _ h1, h2]
theorem toldM {s t : ByteArray} {l : List ByteArray} (hs : s = tx t l) (ht : hasB t ⟨#[60]⟩ = false) (hl : ∀ n ∈ l, allL n ∧ 0 < n.size) (hz : s.size ≤ 140737488355328) : ∀ k j, j + k = l.length →
    tags strings_ToLower.f strings_EqualFold.f s (pj t l j) (List.replicate (k + 1) ⟨0, (s.size : Nat), ⟨#[]⟩⟩) = some ((List.range' j k).map (tk t l) ++ [⟨0, ⟨#[]⟩, false, 0, false, s.size⟩]) := by
  intro k
  induction k with
  | zero =>
    intro j hj
    have hM := tx_mid t l j (by omega)
    rw [← hs] at hM
    have hp : pj t l j + t.size = s.size := by
      have := tx_ge t l j
      rw [pj, hs, List.take_of_length_le (by omega)]
      rw [List.take_of_length_le (by omega)] at this
      omega
    have f0 : findB s s.size 60 (pj t l j) = s.size := by
      have := find_in (s := s) (lim := s.size) (c := 60) hM (by omega) (hasB_not ht) (fun h => by omega)
      rw [hp] at this; exact this
    have hn : next strings_ToLower.f s s.size (pj t l j) = some ⟨0, ⟨#[]⟩, false, 0, false, s.size⟩ := by
      rw [next, dif_neg (by rw [f0]; omega)]
    exact tags_one (step_next ⟨#[]⟩ (by omega) (Nat.le_refl _) hn)
  | succ k ih =>
    intro j hj
    obtain ⟨n, hn⟩ : ∃ n, l[j]? = some n := ⟨_, List.getElem?_eq_getElem (by omega)⟩
    obtain ⟨hL, h0⟩ := hl n (List.mem_of_getElem? hn)
    have hM := tx_mid t l j (by omega)
    have hT := tx_tag t l j n hn
    rw [← hs] at hM hT
    have hge := tx_ge t l j
    have hp : pj t l j + t.size = (tx t (l.take j)).size := by rw [pj]; omega
    have hle := hT.le
    rw [tg_size] at hle
    have z1 : (⟨#[60]⟩ : ByteArray).size = 1 := rfl
    have hT' : At s (⟨#[60]⟩ ++ n ++ ⟨#[62]⟩) (tx t (l.take j)).size := hT
    have O := hT'.left.left
    have M := hT'.left.right
    have G := hT'.right
    rw [ByteArray.size_append, z1] at G
    rw [z1] at M
    rw [← Nat.add_assoc] at G
    generalize hst : (tx t (l.take j)).size = st at *
    have o0 : bt s ((st : Nat) : Int) = 60 := at_byte O 0 (by decide) rfl
    have g0 : bt s ((st + 1 + n.size : Nat) : Int) = 62 := at_byte G 0 (by decide) rfl
    have f0 : findB s s.size 60 (pj t l j) = st := by
      have := find_in (s := s) (lim := s.size) (c := 60) hM (by omega) (hasB_not ht) (fun _ => by rw [hp]; exact o0)
      rw [hp] at this; exact this
    have b1 : ltr (bt s ((st + 1 : Nat) : Int)) = true := by
      have := hL 0 h0
      rw [← M.eq 0 h0, Nat.add_zero] at this
      exact this
    obtain ⟨c1, c2⟩ := lt33 b1
    have ne : nameE s s.size (st + 1) = st + 1 + n.size := nameE_at M (by omega) hL (by rw [g0]; rfl)
    have hstep : step1 strings_ToLower.f strings_EqualFold.f s (pj t l j) ⟨0, (s.size : Nat), ⟨#[]⟩⟩ = some (tk t l j) := by
      have := step_next (lower := strings_ToLower.f) (fold := strings_EqualFold.f) (s := s) (lim := s.size) (p := pj t l j) (t := ⟨1, lowB n, false, (st : Nat), true, st + n.size + 2⟩) ⟨#[]⟩ (by omega) (Nat.le_refl _) (next_at f0 (by omega) (by omega) (by
        unfold afterLt body
        rw [if_neg c1, if_neg c2, if_pos b1, ne, M.ext rfl, lower_low hL (by omega)]
        simp only [Option.bind_some, Option.map_some, attrs_gt (s := s) (lim := s.size) (p := st + 1 + n.size) (st := true) (self := false) (by omega) g0, if_true]
        rw [show st + 1 + n.size + 1 = st + n.size + 2 by omega]))
      rw [this]
      unfold tk
      rw [getD_of hn, hst]
    have hpos : (tk t l j).pos = pj t l (j + 1) := by
      rw [pj_succ t l j n hn]
      unfold tk
      rw [getD_of hn]
    have := ih (j + 1) (by omega)
    rw [← hpos] at this
    rw [List.replicate_succ, List.range'_succ, List.map_cons, List.cons_append]
    exact tags_cons hstep this
end Go.Proofs.YthjddnmfpdcjnaaDoor.LawM
