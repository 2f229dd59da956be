/- The page laws: texts that all of them use, joined (part 16): Pg60, Pg61, PgT, LwQt, PgL, WWords, WSized, Row0, LwK. -/
import Derived.Test.YtkehggbmpdacpabGreatDoorRows
import Derived.PinnedBridge
import Derived.LaidMore
import Derived.MakeChecks
import Derived.Lib.LaidRTab
import Derived.Lib.LaidU8T
import Derived.Lib.LaidTab
import Derived.Below
import Derived.Deep.Draws
import Derived.Deep.AppendLies
import Derived.Maps.AppendAt
import Derived.OwnWalk
import Derived.Laws.BytesArg
import Derived.Laws.MakeOwn
import Derived.Laws.OwnMore
import Derived.Deep.OwnRows
import Derived.Tactics
import Derived.Lib.ConvBytes
import Derived.Laws.Slices
import Derived.WalkKit
import Derived.KernelRfl
import Derived.RowKit3
import Derived.Deep.LoopGhost
import Derived.Deep.QuietTactic
import Derived.BigQuiet
import Derived.WideLaws
import Derived.Deep.DeepCutAuto
import Derived.Deep.CutBlock
import Derived.Deep.RegionHeld3
import Derived.Laws.Rows
import Derived.Lib.AppendStr
import Derived.ArgAppend
import Derived.Laws.IdiomCopy
import Derived.RowKit
import Derived.SizedLaws
import Derived.ChangeSlices
import Derived.SliceStrings
import Derived.ChangeAt
import Derived.ProofKit
import Derived.ShutString
import Derived.ChangeOld
import Derived.Test.YtkehggbmpdacpabGreatDoorKp1
import Derived.Test.YtkehggbmpdacpabGreatDoorKp15
set_option maxRecDepth 100000
set_option linter.unusedVariables false
set_option linter.unusedSimpArgs false
set_option linter.unusedSectionVars false
namespace Go.Proofs.YtkehggbmpdacpabGreatDoor.Pg
open Go.Rx hiding bt
open Go.RowKit Go.Proofs.YtkehggbmpdacpabGreatDoor.Dec0 Go.Proofs.YtkehggbmpdacpabGreatDoor.Lex0
@[reducible] def bkS (g : Nat) (B : Book) (r : Row) (E : Mem) : Mem := bkM g (ba B.s) r B.l E
def bsz (B : Book) : Nat := B.s.length + B.l.length
theorem ba_app (a b : T) : ba (a ++ b) = ba a ++ ba b := by
  rw [Txt0.data_inj]
  simp [ba]
theorem bsz_as (B : Book) (ty : Nat) (u t : T) : bsz (B.as_ ty u t) = bsz B + u.length + 1 := by
  show (B.s ++ u).length + (B.l ++ [_]).length = _
  simp only [List.length_append, List.length_cons, List.length_nil, bsz]
  omega
theorem bsz_put (B : Book) (ty : Nat) (u : T) : bsz (B.put ty u) = bsz B + u.length + 1 := bsz_as B ty u u
theorem bsz_pass (B : Book) (u : T) : bsz (B.pass u) = bsz B + u.length := by
  show (B.s ++ u).length + B.l.length = _
  simp only [List.length_append, bsz]
  omega
theorem bsz_b0 : bsz b0 = 0 := rfl
section
variable {X : Cx} {g : Nat} (hg : X.may g) {B : Book} {r : Row} {E : Mem} (hr : BkOk X r B.l)
include hg hr
theorem asB_calls (hn : bsz B ≤ 1000000000 - 1) {ty : Nat} (hty : ty ≤ 18) {u t : ByteArray} (hus : u.size ≤ 1099511627776) (hts : t.size ≤ 1099511627776) (ha : asc t.data.toList) :
    ∀ w, Cl X (bkS g B r E) w → Calls Tryz.prog 21 #[.pointer (some ⟨g, 0, none⟩), .int .i64 (ty : Nat), .string u, .string t] w fun e w' => ∃ r' : Row, e = .returned (.tuple #[]) ∧ Cl X (bkS g (B.as_ ty u.data.toList t.data.toList) r' E) w' ∧ BkOk X r' (B.as_ ty u.data.toList t.data.toList).l := fun w hw => by
  have h := as_calls (E := E) (s := ba B.s) hg hr (by unfold bsz at hn; omega) hty (u := u) (t := t) (by omega) ha (by rw [ba_size]; unfold bsz at hn; omega) w hw
  have e : ba B.s ++ u = ba (B.as_ ty u.data.toList t.data.toList).s := by show _ = ba (B.s ++ u.data.toList); rw [ba_app]; rfl
  rw [e] at h
  exact h
theorem passB_calls (hn : bsz B ≤ 1000000000) {u : ByteArray} (hus : u.size ≤ 1099511627776) :
    ∀ w, Cl X (bkS g B r E) w → Calls Tryz.prog 20 #[.pointer (some ⟨g, 0, none⟩), .string u] w fun e w' => e = .returned (.tuple #[]) ∧ Cl X (bkS g (B.pass u.data.toList) r E) w' := fun w hw => by
  have h := pass_calls (X := X) hg (txt := ba B.s) (s := u) (v := r.val B.l.length) (E := r.mem (B.l.flatMap tiC) 59 ++ E) (by rw [ba_size]; unfold bsz at hn; omega) w hw
  have e : ba B.s ++ u = ba (B.pass u.data.toList).s := by show _ = ba (B.s ++ u.data.toList); rw [ba_app]; rfl
  rw [e] at h
  exact h
theorem passR_calls (hn : bsz B ≤ 1000000000) {u : ByteArray} (hus : u.size ≤ 1099511627776) :
    ∀ w, Cl X (bkS g B r E) w → Calls Tryz.prog 20 #[.pointer (some ⟨g, 0, none⟩), .string u] w fun e w' => ∃ r' : Row, e = .returned (.tuple #[]) ∧ Cl X (bkS g (B.pass u.data.toList) r' E) w' ∧ BkOk X r' (B.pass u.data.toList).l := fun w hw =>
  (passB_calls hg hr hn hus w hw).mono fun e w' ⟨h1, h2⟩ => ⟨r, h1, h2, hr⟩
theorem putB_calls (hn : bsz B ≤ 1000000000 - 1) {ty : Nat} (hty : ty ≤ 18) {u : ByteArray} (hus : u.size ≤ 1099511627776) (ha : asc u.data.toList) :
    ∀ w, Cl X (bkS g B r E) w → Calls Tryz.prog 19 #[.pointer (some ⟨g, 0, none⟩), .int .i64 (ty : Nat), .string u] w fun e w' => ∃ r' : Row, e = .returned (.tuple #[]) ∧ Cl X (bkS g (B.put ty u.data.toList) r' E) w' ∧ BkOk X r' (B.put ty u.data.toList).l := by
  intro w hw
  refine enterC 11 hw Tryz.func19 rfl rfl (vs := [.pointer (some ⟨g, 0, none⟩), .int .i64 (ty : Nat), .string u]) rfl ?_
  replace hg := Cx.may_sub (n := 11) (w := w) hg
  replace hr := hr.sub 11 hw
  conv => arg 2; arg 2; whnf
  repeat' (first | (show PJ _ (Code.wp _ _ _) _ _; (refine rtext ?_)) | refine jnil ?_ | (first | refine jmv rfl rfl rfl ?_ | (show Jo _ (.call _); ((show Jo _ (.call ⟨.value (.func 21), _, _⟩); refine jcall (ι := Row) (v := fun _ => .tuple #[]) (m' := fun r' => bkS g (B.as_ ty u.data.toList u.data.toList) r' E) (fun r' => BkOk _ r' (B.as_ ty u.data.toList u.data.toList).l) bo39 rfl rfl rfl (asB_calls hg hr hn hty hus hus ha) (fun r' hr' => ?_))))))
  exact end0 rfl rfl (fun w' hw' => ⟨r', rfl, hw.up hw', BkOk.up hw hr'⟩)
end
section
variable {X : Cx} {g : Nat} (hg : X.may g) {B : Book} {r : Row} {E : Mem} (hr : BkOk X r B.l) (hn : bsz B ≤ 1000000000 - 10)
include hg hr hn
end
theorem bo19 : bodyB Tryz.prog 24 = true := by kernel_rfl
theorem cl_row {X : Cx} {m : Mem} {w w' : World} {r : Row} {xs : List Value} {e : TypeId} {n sz : Nat} (hw : Cl X m w) (hb : Below w.heap.size w w') (h : Has (r.mem xs e) w') (hr : r.ok w.heap.size sz n xs) : Cl X (r.mem xs e ++ m) w' := by
  have h1 := hw.below hb
  cases r with
  | nil => exact h1
  | «at» g cap rr =>
    refine ⟨⟨?_, fun x hx => ?_⟩, h1.2⟩
    · show ((g :: m.map (·.1)) : List Nat).Nodup
      rw [List.nodup_cons]
      refine ⟨fun hg => ?_, h1.1.ne⟩
      obtain ⟨x, hx, e⟩ := List.mem_map.1 hg
      have h2 := hw.1.lt hx
      rw [e] at h2
      exact absurd h2 (Nat.not_lt.2 hr.1)
    · rcases List.mem_cons.1 hx with rfl | hx
      · exact h.blk _ (List.mem_singleton.2 rfl)
      · exact h1.1.blk x hx
theorem tiC_at : ∀ {l : List Ti} {j : Nat} {t : Ti} {i : Nat} {u : Value}, l[j]? = some t → (tiC t)[i]? = some u → (l.flatMap tiC)[5 * j + i]? = some u := by
  intro l
  induction l with
  | nil => intro j t i u h; simp at h
  | cons a l ih =>
    intro j t i u h hu
    have hi : i < 5 := by
      have := (List.getElem?_eq_some_iff.1 hu).1
      exact this
    rw [List.flatMap_cons]
    cases j with
    | zero =>
      obtain rfl : a = t := by simpa using h
      rw [List.getElem?_append_left (by show 5 * 0 + i < 5; omega), show 5 * 0 + i = i by omega]
      exact hu
    | succ j =>
      rw [List.getElem?_append_right (by show 5 ≤ 5 * (j + 1) + i; omega)]
      have := ih (j := j) (by simpa using h) hu
      rw [show 5 * (j + 1) + i - (tiC a).length = 5 * j + i by show 5 * (j + 1) + i - 5 = _; omega]
      exact this
theorem tiCs_len : ∀ (l : List Ti), (l.flatMap tiC).length = 5 * l.length := by
  intro l
  induction l with
  | nil => rfl
  | cons a l ih => rw [List.flatMap_cons, List.length_append, ih, List.length_cons]; show 5 + _ = _; omega
theorem tis_of {w : World} {r : Row} {l : List Ti} {B : Nat} (h : Has (r.mem (l.flatMap tiC) 59) w) (hr : r.ok B 5 l.length (l.flatMap tiC)) : TisAt w (r.val l.length) l := by
  cases r with
  | nil =>
    obtain ⟨h0, _⟩ := hr
    have : l = [] := List.length_eq_zero_iff.1 h0
    subst this
    exact ⟨none, 0, rfl, fun j t hj => by simp at hj⟩
  | «at» g cap rr =>
    refine ⟨some ⟨g, 0, none⟩, cap, rfl, fun j t hj => ⟨_, rfl, fun i u hu => ?_⟩⟩
    have h1 : w.heap[g]? = some (.cells (l.flatMap tiC ++ rr).toArray 59 (0, 0)) := h.blk _ (List.mem_singleton.2 rfl)
    rw [add_lit]
    refine cell_row h1 ?_
    rw [List.getElem?_append_left (by have := (List.getElem?_eq_some_iff.1 hj).1; have := (List.getElem?_eq_some_iff.1 hu).1; rw [tiCs_len]; have h5 : (tiC t).length = 5 := rfl; omega)]
    exact tiC_at hj hu
theorem row_ok0 {r : Row} {B sz n : Nat} {xs : List Value} (h : r.ok B sz n xs) : r.ok 0 sz n xs := by
  cases r with
  | nil => exact h
  | «at» g cap rr => exact ⟨Nat.zero_le _, h.2⟩
theorem parseB {X : Cx} (hW : ∃ W, Bs W X ∧ Tab W) {m : Mem} (s : T) (fr dv : Bool) (hs : s.length ≤ 4294967296) : ∀ w, Cl X m w → Calls Tryz.prog 28 #[.string (ba s), .bool fr, .bool dv] w fun e w' => ∃ r : Row, e = .returned (r.val (told s fr dv).length) ∧ Cl X (r.mem ((told s fr dv).flatMap tiC) 59 ++ m) w' ∧ r.ok 0 5 (told s fr dv).length ((told s fr dv).flatMap tiC) := fun w hw => by
  obtain ⟨W, h1, h2⟩ := hW
  refine (parse16_calls (h2.below (h1.w hw)) (ba s) fr dv hs).mono fun e w' ⟨r, e1, e2, e3, e4⟩ => ⟨r, e1, cl_row hw e4 e2 e3, row_ok0 e3⟩
theorem sameB {w : World} {r1 r : Row} {l : List Ti} {B : Book} {g : Nat} {E : Mem} (h : Has (r1.mem (l.flatMap tiC) 59 ++ bkS g B r E) w) (h1 : r1.ok 0 5 l.length (l.flatMap tiC)) (h2 : r.ok 0 5 B.l.length (B.l.flatMap tiC)) (heq : l = B.l) (hl : B.l.length ≤ 1000000000000) :
    Calls Tryz.prog 41 #[r1.val l.length, r.val B.l.length] w fun e w' => e = .returned (.bool true) ∧ Below w.heap.size w w' := by
  subst heq
  refine sameItems_calls (tis_of (h.sub (List.sublist_append_left _ _)) h1) (tis_of (h.sub ?_) h2) hl
  exact (List.sublist_append_left _ E).trans ((List.sublist_cons_self _ _).trans (List.sublist_append_right _ _))
set_option maxHeartbeats 1000000 in
theorem tells_calls {X : Cx} (hW : ∃ W, Bs W X ∧ Tab W) {g : Nat} {B : Book} {r : Row} {E : Mem} (hr : BkOk X r B.l) (fr dv : Bool) (hn : bsz B ≤ 1000000000) (heq : told B.s fr dv = B.l) :
    ∀ w, Cl X (bkS g B r E) w → Calls Tryz.prog 24 #[.pointer (some ⟨g, 0, none⟩), .bool fr, .bool dv] w fun e w' => e = .returned (.bool true) ∧ Cl X (bkS g B r E) w' := by
  intro w hw
  refine enterC 27 hw Tryz.func24 rfl rfl (vs := [.pointer (some ⟨g, 0, none⟩), .bool fr, .bool dv]) rfl ?_
  replace hr := hr.sub 27 hw
  replace hW : ∃ W, Bs W (X.sub 27 w) ∧ Tab W := by obtain ⟨W, h1, h2⟩ := hW; exact ⟨W, h1.sub hw 27, h2⟩
  unfold bsz at hn
  have hln : B.l.length ≤ 1000000000000 := by omega
  conv => arg 2; arg 2; whnf
  have hsub : ∀ {X' : Cx} {m' : Mem} w', Cl X' (bkB g (ba B.s) (r.val B.l.length) :: m') w' → Cl X' [bkB g (ba B.s) (r.val B.l.length)] w' := fun w' h => h.less (List.Sublist.cons_cons _ (List.nil_sublist _))
  cases hbg : decide (((ba B.s).size : Int) > 65536)
  all_goals
    repeat' (first | first | (show PJ _ (Code.wp _ _ _) _ _; first | refine cseq ?_ | refine rtext ?_ | refine cret ?_ | (show PJ _ (Code.wp _ (Code.region 1 _ true) _) _ _; refine rany [bkB g (ba B.s) (r.val B.l.length)] mixed ?_)) | refine jnil ?_ | (first | refine js rfl rfl ?_ | refine jas_ rfl rfl rfl ?_ | (show Jo _ (.call _); first | (show Jo _ (.call ⟨.value (.func 28), _, _⟩); refine jcall (ι := Row) (v := fun r' => r'.val (told B.s fr dv).length) (m' := fun r' => r'.mem ((told B.s fr dv).flatMap tiC) 59 ++ bkS g B r E) (fun r' => r'.ok 0 5 (told B.s fr dv).length ((told B.s fr dv).flatMap tiC)) bo16 rfl rfl rfl (parseB hW B.s fr dv (by omega)) (fun r1 h1 => ?_)) | (show Jo _ (.call ⟨.value (.func 41), _, _⟩); refine jcallq bo30 rfl rfl rfl (quietC fun w' hw' => sameB hw'.1 h1 hr.ok heq hln) ?_))) | first | (show JT _ _ _ _ _ _ [] _ _; refine jtnil ?_) | (first | refine jts rfl rfl ?_ | (show JTo _ (.move _); refine jty (ymove rfl) rfl rfl ?_) | (show JTo _ (.nilCheck _); refine jty (ynil rfl) rfl rfl ?_) | (show JTo _ (.fieldAddr _ _ _); refine jty (yfield rfl (by first | exact fb29_0 | exact fb29_1) rfl) rfl rfl ?_) | (show JTo _ (.load _ _); refine jty (yload (i := 0) rfl rfl rfl one9') rfl rfl ?_) | (show JTo _ (.assign _); refine jty (yassign rfl) rfl rfl ?_) | (show JTo _ (.binOp _ _ _ _ _); ((show JTo _ (.binOp .gtr _ _ _ _); refine jty (ygtr rfl rfl hbg) rfl rfl ?_))) | (show JTo _ (.pick _ _ _); first | refine jty (ypick1 rfl rfl) rfl rfl ?_ | refine jty (ypick0 rfl rfl) rfl rfl ?_) | (show JTo _ (.call _); ((show JTo _ (.call ⟨.builtin .len, _, _⟩); refine jty (ylens rfl Lw.und9) rfl rfl ?_)))) | first | (show PJ _ (WKeep _ _ _) _ _; refine jas (fun _ h => by first | exact hsub _ h | exact h.less ((List.Sublist.cons_cons _ (List.nil_sublist _)).trans (List.sublist_append_right _ _))) ?_) | (show PJ _ (WIf _ _ _) _ _; refine jaw ?_) | (show PJ _ (WAny _ _ _ _ _ _ _) _ _; first | refine jaq (g' := 4) (D := []) [0, 1, 2, 3, 4, 5, 6, 7, 8, 9, 10, 11, 12, 14, 15, 16, 17] rfl (fun _ h => by (exact hsub _ h)) (by kernel_rfl) (by kernel_rfl) rfl (fun _ d _ _ _ h => by cases d <;> exact h) rfl ?_ | refine ja1 (g' := 3) (D := [0, 1, 2, 3, 4, 5, 6, 7, 8, 9, 10, 11, 12, 14, 15, 16, 17]) 13 rfl rfl (by kernel_rfl) rfl ?_ | refine ja1 (g' := 2) (D := [0, 1, 2, 3, 4, 5, 6, 7, 8, 9, 10, 11, 12, 14, 15, 16, 17, 13]) 18 rfl rfl (by kernel_rfl) rfl ?_ | refine jaq (g' := 0) (D := [0, 1, 2, 3, 4, 5, 6, 7, 8, 9, 10, 11, 12, 14, 15, 16, 17, 13, 18]) [19, 20] rfl (fun _ h => by first | exact hsub _ h | exact h.less ((List.Sublist.cons_cons _ (List.nil_sublist _)).trans (List.sublist_append_right _ _))) (by kernel_rfl) (by kernel_rfl) rfl (fun _ d _ _ _ h => by cases d <;> exact h) rfl ?_ | refine jadone rfl (by kernel_rfl) ?_))
    all_goals first | exact ret1 rfl rfl rfl (fun w' hw' => ⟨rfl, hw.up hw'⟩) | exact ret1 rfl rfl rfl (fun w' hw' => ⟨rfl, (hw.up hw').less (List.sublist_append_right _ _)⟩)
end Go.Proofs.YtkehggbmpdacpabGreatDoor.Pg
namespace Go.Proofs.YtkehggbmpdacpabGreatDoor.Pg
open Go.Rx hiding bt
open Go.Lib
open Go.RowKit
theorem tabIs_of_reads {P : Program} {W : World} {name : String} {k : IntKind} {zs : List Int} {g : Nat} {t e : TypeId} {n : Nat}
    (hg : P.globalNamed name = some g) (hty : (P.globals[g]?).map (·.type) = some t) (ht : P.underlying t = some (.array n e)) (he : P.underlying e = some (.int k)) (hce : P.cellsOf e = 1) (hct : P.cellsOf t = n)
    (h : VarReads P W name (tabData k zs)) : TabIs P W name k zs := by
  obtain ⟨g', t', cs, fuel, p, hg', ht', hvar, hd⟩ := h
  obtain rfl := Option.some.inj (hg.symm.trans hg')
  obtain rfl := Option.some.inj (hty.symm.trans ht')
  unfold TabIs
  rw [hvar, ← cells_of_tab ht he hce hct hd]
def renU : Go.Shelf.Ren := ⟨fun n => n, fun | 119 => 129 | 138 => 147 | 139 => 148 | n => n, fun | 3 => 2 | 4 => 3 | n => n⟩
theorem tab_of_laid {W : World} (hL : laidMetH Tryz.prog [("unicode/utf8.acceptRanges", Rows.laid_unicode_utf8_acceptRanges), ("unicode.White_Space", Rows.laid_unicode_White_Space), ("unicode.properties", Rows.laid_unicode_properties), ("bytes.ErrTooLarge", Rows.laid_bytes_ErrTooLarge), ("bytes.asciiSpace", Rows.laid_bytes_asciiSpace), ("unicode.Digit", Rows.laid_unicode_Digit), ("unicode.Letter", Rows.laid_unicode_Letter), ("unicode/utf8.first", Rows.laid_unicode_utf8_first)] W) : Tab W := by
  rw [MakeChecks.laidMetH_plain _ _ _ (by kernel_rfl)] at hL
  have h0 := Lib.laidMet.reads hL (n := "unicode/utf8.acceptRanges") (d := Rows.laid_unicode_utf8_acceptRanges) (.head _)
  have h1 := Lib.laidMet.reads hL (n := "unicode.White_Space") (d := Rows.laid_unicode_White_Space) (.tail _ (.head _))
  have h2 := Lib.laidMet.reads hL (n := "unicode.properties") (d := Rows.laid_unicode_properties) (.tail _ (.tail _ (.head _)))
  have h4 := Lib.laidMet.reads hL (n := "bytes.asciiSpace") (d := Rows.laid_bytes_asciiSpace) (.tail _ (.tail _ (.tail _ (.tail _ (.head _)))))
  have h5 := Lib.laidMet.reads hL (n := "unicode.Digit") (d := Rows.laid_unicode_Digit) (.tail _ (.tail _ (.tail _ (.tail _ (.tail _ (.head _))))))
  have h6 := Lib.laidMet.reads hL (n := "unicode.Letter") (d := Rows.laid_unicode_Letter) (.tail _ (.tail _ (.tail _ (.tail _ (.tail _ (.tail _ (.head _)))))))
  have h7 := Lib.laidMet.reads hL (n := "unicode/utf8.first") (d := Rows.laid_unicode_utf8_first) (.tail _ (.tail _ (.tail _ (.tail _ (.tail _ (.tail _ (.tail _ (.head _))))))))
  have e0 : (Rows.laid_unicode_utf8_acceptRanges : DataW Unit) = acceptData := by kernel_rfl
  have e1 : (Rows.laid_unicode_White_Space : DataW Unit) = whiteData := by kernel_rfl
  have e2 : (Rows.laid_unicode_properties : DataW Unit) = tabData .u8 propertiesTab := by kernel_rfl
  have e4 : (Rows.laid_bytes_asciiSpace : DataW Unit) = tabData .u8 asciiSpaceTab := by kernel_rfl
  have e5 : Rows.laid_unicode_Digit = rtabData digitT := Pinned.digit_eq
  have e6 : Rows.laid_unicode_Letter = rtabData letterT := Pinned.letter_eq
  have e7 : Rows.laid_unicode_utf8_first = firstData := Pinned.utf8First_eq
  rw [e0] at h0
  rw [e1] at h1
  rw [e2] at h2
  rw [e4] at h4
  rw [e5] at h5
  rw [e6] at h6
  rw [e7] at h7
  have L : Lays.n261 Tryz.prog Tryz.lays198_ren := { Tryz.lays198 with }
  have X : RExtra Tryz.prog Tryz.lays198_ren := ⟨by kernel_rfl, by kernel_rfl, by kernel_rfl, by kernel_rfl, by kernel_rfl, by kernel_rfl, by kernel_rfl, by kernel_rfl⟩
  have U : U8Types Tryz.prog renU := ⟨by kernel_rfl, by kernel_rfl, by kernel_rfl, by kernel_rfl⟩
  have UX : U8Extra Tryz.prog renU := ⟨by kernel_rfl, by kernel_rfl, by kernel_rfl, by kernel_rfl, by kernel_rfl, by kernel_rfl, by kernel_rfl⟩
  exact ⟨utf8Tabs_of_readsT (ρ := renU) U UX h7 h0,
    tabIs_of_reads (g := 5) (t := 129) (e := 5) (n := 256) (by kernel_rfl) (by kernel_rfl) (by kernel_rfl) (by kernel_rfl) (by kernel_rfl) (by kernel_rfl) h2,
    rvar_of_reads L X (by kernel_rfl) (by kernel_rfl) h6, rvar_of_reads L X (by kernel_rfl) (by kernel_rfl) h5,
    whiteTab_of_reads Tryz.lays199 ⟨by kernel_rfl, by kernel_rfl, by kernel_rfl, by kernel_rfl, by kernel_rfl, by kernel_rfl, by kernel_rfl, by kernel_rfl⟩ h1,
    tabIs_of_reads (g := 0) (t := 129) (e := 5) (n := 256) (by kernel_rfl) (by kernel_rfl) (by kernel_rfl) (by kernel_rfl) (by kernel_rfl) (by kernel_rfl) h4⟩
end Go.Proofs.YtkehggbmpdacpabGreatDoor.Pg
namespace Go.Proofs.YtkehggbmpdacpabGreatDoor.Lw
open Go.Rx
open Go.RowKit Go.Proofs.YtkehggbmpdacpabGreatDoor.Dec0 Go.Proofs.YtkehggbmpdacpabGreatDoor.Txt0
theorem boQt : bodyB Tryz.prog 16 = true := by kernel_rfl
theorem has_one {c : UInt8} : ∀ {l : T}, hasT [c] l = false → ∀ d ∈ l, d ≠ c := by
  intro l
  induction l with
  | nil => intro _ d hd; cases hd
  | cons a l ih =>
    intro h d hd
    rw [hasT_drop _ _ (by simp), List.drop_one, List.tail_cons, Bool.or_eq_false_iff] at h
    rcases List.mem_cons.1 hd with rfl | hd
    · intro e
      rw [e] at h
      simp at h
    · exact ih h.2 d hd
theorem asc_all {l : T} (h : l.all isAsc = true) : (∀ c ∈ l, c.toNat < 128) ∧ ∀ c ∈ l, c.toNat ≠ 13 := by
  have : ∀ c ∈ l, c.toNat < 128 ∧ c.toNat ≠ 13 := fun c hc => by
    have := List.all_eq_true.1 h c hc
    unfold isAsc at this
    simp at this
    omega
  exact ⟨fun c hc => (this c hc).1, fun c hc => (this c hc).2⟩
def QuoteF (s : ByteArray) : Prop := Lex0.QT s.data.toList ∧ s.size < 1000 ∧ ∀ c ∈ s.data.toList, c.toNat ≠ 13
theorem quotable_calls (s : ByteArray) (w : World) (hs : s.size ≤ 4611686018427387904) : Calls Tryz.prog 16 #[.string s] w fun e w' => ∃ b, e = .returned (.bool b) ∧ Below w.heap.size w w' ∧ (b = true → QuoteF s) := by
  refine enter (fun _ => False) 25 [] Tryz.func16 rfl rfl rfl (vs := [.string s]) (Has.nil _) ?_
  conv => arg 2; arg 2; whnf
  have post : ∀ (f : Fr) (m : Mem) (b : Bool), (b = true → QuoteF s) → Rx.look f 2 = some (.bool b) → PJ ⟨25, [], fun _ => False, w⟩ (bodyPost Tryz.prog Tryz.f16 (fun e w' => ∃ b, e = .returned (.bool b) ∧ Below w.heap.size w w' ∧ (b = true → QuoteF s)) .ret) f m := fun f m b hb hf =>
    ret1 rfl rfl hf (fun w' hw' => ⟨b, rfl, hw'.2.below (fun k _ h => h) (Nat.le_refl _), hb⟩)
  repeat' (first | refine cseq ?_ | refine rtext ?_ | refine cret ?_ | refine jnil ?_ | (first | refine js rfl rfl ?_ | refine jmv rfl rfl rfl ?_ | refine jas_ rfl rfl rfl ?_ | (show Jo _ (.binOp _ _ _ _ _); refine jlss rfl rfl rfl rfl (fun hq => ?_) (fun hq => ?_)) | (show Jo _ (.pick _ _ _); first | refine jy (ypick1 rfl rfl) rfl rfl ?_ | refine jy (ypick0 rfl rfl) rfl rfl ?_) | refine jy (ynot rfl rfl) rfl rfl ?_ | (show Jo _ (.call _); first | (show Jo _ (.call ⟨.builtin .len, _, _⟩); refine jy (ylens rfl und9) rfl rfl ?_) | (show Jo _ (.call ⟨.value (.func 39), _, _⟩); refine jcallq boAsc rfl rfl rfl (ascii_in (by omega)) ?_; refine jcases (fun hasc => ?_) (fun hasc => ?_)) | (show Jo (some 7) (.call ⟨.value (.func 38), _, _⟩); refine jcallq boHas rfl rfl rfl (has_in (by omega) (by decide)) ?_; refine jcases (fun h1 => ?_) (fun h1 => ?_)) | (show Jo (some 12) (.call ⟨.value (.func 38), _, _⟩); refine jcallq boHas rfl rfl rfl (has_in (by omega) (by decide)) ?_; refine jcases (fun h2 => ?_) (fun h2 => ?_)) | (show Jo (some 17) (.call ⟨.value (.func 38), _, _⟩); refine jcallq boHas rfl rfl rfl (has_in (by omega) (by decide)) ?_; refine jcases (fun h3 => ?_) (fun h3 => ?_)))))
  all_goals first
    | exact post _ _ false (fun h => by cases h) rfl
    | exact post _ _ true (fun _ => ⟨⟨(asc_all hasc).1, fun c hc => ⟨has_one h2 c hc, has_one h3 c hc, has_one h1 c hc⟩⟩, by omega, (asc_all hasc).2⟩) rfl
theorem quotable_in {X : Cx} {m : Mem} {s : ByteArray} (hs : s.size ≤ 4611686018427387904) : ∀ w, Cl X m w → Calls Tryz.prog 16 #[.string s] w fun e w' => ∃ b, e = .returned (.bool b) ∧ Cl X m w' ∧ (b = true → QuoteF s) := fun w hw =>
  (quotable_calls s w hs).mono fun e w' ⟨b, h1, h2, h3⟩ => ⟨b, h1, hw.below h2, h3⟩
end Go.Proofs.YtkehggbmpdacpabGreatDoor.Lw
namespace Go.Proofs.YtkehggbmpdacpabGreatDoor.Pg
open Go.Rx hiding bt
open Go.RowKit Go.Proofs.YtkehggbmpdacpabGreatDoor.Dec0 Go.Proofs.YtkehggbmpdacpabGreatDoor.Lex0
theorem bu29 : Tryz.prog.built 28 [] = some [.string ⟨#[]⟩, .slice none 0 0].toArray := by kernel_rfl
theorem ba_list (x : T) : (ba x).data.toList = x := rfl
theorem bz1 (a : UInt8) : (⟨#[a]⟩ : ByteArray).size = 1 := rfl
theorem bz2 (a b : UInt8) : (⟨#[a, b]⟩ : ByteArray).size = 2 := rfl
theorem ba_lf_sz (md : Bool) : (ba (lf md)).size = 3 := by cases md <;> rfl
theorem ba_rd_sz (md : Bool) : (ba (rd md)).size = 3 := by cases md <;> rfl
@[reducible] def txs (l : List ByteArray) : List T := l.map fun x => x.data.toList
theorem txs_at {l : List ByteArray} {j : Nat} {x : ByteArray} (h : l[j]? = some x) : (txs l)[j]? = some x.data.toList := by
  rw [txs, List.getElem?_map, h]; rfl
theorem take_txs (l : List ByteArray) : (txs l).take l.length = txs l := List.take_of_length_le (by simp [txs])
theorem mem_txs {l : List ByteArray} {p : T → Prop} (h : ∀ x ∈ l, p x.data.toList) : ∀ v ∈ txs l, p v := by
  intro v hv
  obtain ⟨x, hx, rfl⟩ := List.mem_map.1 hv
  exact h x hx
theorem bk0 {X : Cx} : BkOk X .nil b0.l := ⟨⟨rfl, rfl⟩, trivial⟩
end Go.Proofs.YtkehggbmpdacpabGreatDoor.Pg
namespace Go.Proofs.YtkehggbmpdacpabGreatDoorW.PrintWords
open Go.RowKit
structure Aside0 (p : Prop) : Prop where mk :: (out : p)
structure Drawn0 (w w' : World) : Prop where mk :: (out : ∃ n, w' = w.drewN n)
def ReadsRow {α : Type} (R : α → List Value → Prop) (size : Nat) (w : World) (A : Option Addr) (n : Nat) (ps : List α) : Prop :=
  ps.length = n ∧ n ≤ 9223372036854775807 ∧ (0 < n → ∃ ad, A = some ad ∧ ∀ j p, ps[j]? = some p → ∃ c, c.length = size ∧ R p c ∧ ∀ i u, c[i]? = some u → w.cell? (ad.add (j * size + i)) = some u)
section
variable {α : Type} {enc : α → Value} {d : α}
def ReadsOf (enc : α → Value) (d : α) (w : World) (A : Option Addr) (n : Nat) (xs : List α) : Prop :=
  xs.length = n ∧ n ≤ 9223372036854775807 ∧ (0 < n → ∃ ad, A = some ad ∧ ∀ j, j < n → w.cell? (ad.add j) = some (enc (xs.getD j d)))
end
structure Kd (α : Type) where
  sz : Nat
  E : List Nat
  K : World → α → List Value → Prop
  M : World → Nat → (Nat → Prop) → α → List Value → Prop
  K_len : ∀ {w x cs}, K w x cs → cs.length = sz
  K_one : ∀ {w x cs}, K w x cs → ∀ u ∈ cs, u.oneCell' = true
  K_below : ∀ {w w1 : World} {x cs}, Below w.heap.size w w1 → K w x cs → K w1 x cs
  K_of_M : ∀ {w base ok x cs}, M w base ok x cs → K w x cs
  M_mono : ∀ {w base ok ok' x cs}, (∀ k, ok k → ok' k) → M w base ok x cs → M w base ok' x cs
  M_bound : ∀ {w : World} {base ok x cs}, M w base ok x cs → M w base (fun k => ok k ∧ base ≤ k ∧ k < w.heap.size ∧ ∃ q, q ∈ E ∧ ∃ cells, w.heap[k]? = some (.cells cells q (0, 0))) x cs
  M_move : ∀ {w w1 : World} {base ok x cs}, (∀ k, ok k → w1.heap[k]? = w.heap[k]?) → M w base ok x cs → M w1 base ok x cs
  M_lower : ∀ {w base base' ok x cs}, base' ≤ base → M w base ok x cs → M w base' ok x cs
namespace Kd
def C {α : Type} (d : Kd α) (w : World) (A : Option Addr) (n : Nat) (xs : List α) : Prop := ReadsRow (d.K w) d.sz w A n xs
def scalar {α : Type} (enc : α → Value) (h1 : ∀ x, (enc x).oneCell' = true) : Kd α where
  sz := 1
  E := []
  K := fun _ x cs => cs = [enc x]
  M := fun _ _ _ x cs => cs = [enc x]
  K_len := fun h => by rw [h]; rfl
  K_one := fun h u hu => by
    rw [h] at hu
    rw [List.mem_singleton.1 hu]
    exact h1 _
  K_below := fun _ h => h
  K_of_M := fun h => h
  M_mono := fun _ h => h
  M_bound := fun h => h
  M_move := fun _ h => h
  M_lower := fun _ h => h
def string : Kd ByteArray := scalar Value.string (fun _ => rfl)
theorem C_of_reads {α : Type} {enc : α → Value} {d : α} {h1 : ∀ x, (enc x).oneCell' = true} {w : World} {A : Option Addr} {n : Nat} {xs : List α} (h : ReadsOf enc d w A n xs) : (scalar enc h1).C w A n xs := by
  refine ⟨h.1, h.2.1, fun hn => ?_⟩
  obtain ⟨ad, e, hc⟩ := h.2.2 hn
  refine ⟨ad, e, fun j p hj => ⟨[enc p], rfl, rfl, fun i u hu => ?_⟩⟩
  obtain ⟨hl, hp⟩ := List.getElem?_eq_some_iff.1 hj
  have h2 := hc j (by have := h.1; omega)
  rw [List.getD_eq_getElem?_getD, hj] at h2
  cases i with
  | zero =>
    have : enc p = u := by simpa using hu
    subst this
    simpa [scalar] using h2
  | succ i => simp at hu
theorem reads_of_C {α : Type} {enc : α → Value} {d : α} {h1 : ∀ x, (enc x).oneCell' = true} {w : World} {A : Option Addr} {n : Nat} {xs : List α} (h : (scalar enc h1).C w A n xs) : ReadsOf enc d w A n xs := by
  refine ⟨h.1, h.2.1, fun hn => ?_⟩
  obtain ⟨ad, e, hc⟩ := h.2.2 hn
  refine ⟨ad, e, fun j hj => ?_⟩
  have hl : j < xs.length := by have := h.1; omega
  obtain ⟨c, _, hK, hcell⟩ := hc j _ (List.getElem?_eq_getElem hl)
  have hK' : c = [enc xs[j]] := hK
  subst hK'
  have := hcell 0 _ rfl
  simpa [scalar, List.getD_eq_getElem?_getD, List.getElem?_eq_getElem hl] using this
end Kd
namespace Kd
structure Mono {α β : Type} (F : Kd α → Kd β) : Prop where
  sz : ∀ d d' : Kd α, d.sz = d'.sz → (F d).sz = (F d').sz
  K : ∀ d d' : Kd α, d.sz = d'.sz → (∀ w x cs, d.K w x cs → d'.K w x cs) → ∀ w x cs, (F d).K w x cs → (F d').K w x cs
  M : ∀ d d' : Kd α, d.sz = d'.sz → (∀ w base ok x cs, d.M w base ok x cs → d'.M w base ok x cs) → ∀ w base ok x cs, (F d).M w base ok x cs → (F d').M w base ok x cs
end Kd
inductive Vals (P : Program) (tmps : Array Value) (w : World) : List ResultVar → List Value → Prop where
  | nil : Vals P tmps w [] []
  | tmp {u : Tmp} {rs : List ResultVar} {vs : List Value} (h : Vals P tmps w rs vs) : Vals P tmps w (.tmp u :: rs) (tmps.getD u undef :: vs)
  | cell {p : Tmp} {ty : TypeId} {rs : List ResultVar} {vs : List Value} (g : Nat) (t : TypeId) (cs : Array Value) (fr : Nat × Nat) (d : TypeDesc)
      (hp : tmps.getD p undef = .pointer (some ⟨g, 0, none⟩)) (hg : w.heap[g]? = some (.cells cs t fr))
      (hu : P.underlying ty = some d) (hd : (match d with | .struct _ | .array _ _ => true | _ => false) = true) (hi : (P.info? ty).map (·.size) = some cs.size)
      (h : Vals P tmps w rs vs) : Vals P tmps w (.cell p ty :: rs) (.agg cs :: vs)
end Go.Proofs.YtkehggbmpdacpabGreatDoorW.PrintWords
namespace Go.Proofs.YtkehggbmpdacpabGreatDoorW.PrintWords
open Go.ChangeShapes Go.WideShapes

end Go.Proofs.YtkehggbmpdacpabGreatDoorW.PrintWords
namespace Go.Proofs.YtkehggbmpdacpabGreatDoor.Row0
open Go.ChangeShapes Go.WideShapes Go.ChangeAt Go.RowKit Go.Proofs.YtkehggbmpdacpabGreatDoorW.PrintWords
section
variable {H : Type} {enc : TypeId × Value → H} {P : Program} {W : World}
theorem open_strs {t e : TypeId} {a : Option Addr} {len cap : Nat} {d : DataW H} {ps : List MemPlace}
    (hu : P.underlying t = some (.slice e)) (he : P.underlying e = some .string) (hc : P.cellsOf e = 1)
    (h : DataW.Trod enc P W 0 (fun _ => true) true t (.slice a len cap) d ps) :
    ∃ l : List ByteArray, l.length = len ∧ len ≤ cap ∧ Kd.C Kd.string W a len l := by
  obtain ⟨fuel, hf⟩ := h
  rcases open_strings hu he hc hf with ⟨hcs, _⟩ | ⟨x, l, c, ss, hcs, _, hl, hm, hz, hx, hcell, _⟩
  · simp [Value.cells] at hcs
    obtain ⟨rfl, rfl, rfl⟩ := hcs
    exact ⟨[], rfl, Nat.le_refl _, Kd.C_of_reads (d := ByteArray.empty) (h1 := fun _ => rfl) ⟨rfl, by omega, fun h => by omega⟩⟩
  · simp [Value.cells] at hcs
    obtain ⟨rfl, rfl, rfl⟩ := hcs
    simp only [if_true] at hz
    unfold maxLen at hm
    refine ⟨ss.take len, by simp; omega, hl, Kd.C_of_reads (d := ByteArray.empty) (h1 := fun _ => rfl) ⟨by simp; omega, by omega, fun _ => ⟨x, rfl, fun j hj => ?_⟩⟩⟩
    rw [hcell j (by omega)]
    simp [List.getD, hj]
theorem sized_strs {t e : TypeId} {a : Option Addr} {len cap : Nat} {d : DataW H} {ps : List MemPlace} {ts : List TypeId} {ds : List (DataW H)} {j : Nat}
    (hsz : (DataW.weightsEach P ts ds).all (· ≤ reachBytes) = true) (ht : ts[j]? = some t) (hd : ds[j]? = some d) (hu : P.underlying t = some (.slice e)) (he : P.underlying e = some .string) (hc : P.cellsOf e = 1) (hB : P.bytesOf e = 16)
    (h : DataW.Trod enc P W 0 (fun _ => true) true t (.slice a len cap) d ps) : len ≤ 8796093022208 := by
  obtain ⟨fuel, hf⟩ := h
  rcases open_strings hu he hc hf with ⟨hcs, _⟩ | ⟨x, l, c, ss, hcs, _, hl, hm, hz, hx, hcell, _⟩
  · simp [Value.cells] at hcs
    obtain ⟨rfl, rfl, rfl⟩ := hcs
    omega
  · simp [Value.cells] at hcs
    obtain ⟨rfl, rfl, rfl⟩ := hcs
    obtain ⟨hx, _⟩ := Prod.mk.inj hx
    subst hx
    have z := sized_slice hsz ht hd hu
    rw [hB] at z
    simp only [if_true] at hz
    simp only [strs, List.length_map, List.length_take, List.length_drop, reachBytes] at z
    omega
end
end Go.Proofs.YtkehggbmpdacpabGreatDoor.Row0
namespace Go.Proofs.YtkehggbmpdacpabGreatDoor.Lw
open Go.Rx
open Go.RowKit Go.Proofs.YtkehggbmpdacpabGreatDoorW.PrintWords
theorem rowAt_of {w : World} {A : Option Addr} {n c : Nat} {l : List ByteArray} (hn : l.length = n) (h : Kd.C Kd.string w A n l) : RowAt nof w (.slice A n c) n (strs l) := by
  refine ⟨A, c, rfl, fun j u hu => ?_⟩
  obtain ⟨h1, h2, h3⟩ := Kd.reads_of_C (d := ByteArray.empty) h
  have hj : j < l.length := by have := (List.getElem?_eq_some_iff.1 hu).1; simpa [strs] using this
  obtain ⟨ad, e, hc⟩ := h3 (by omega)
  refine ⟨ad, e, fun h => h, ?_⟩
  rw [hc j (by omega)]
  simp [strs, hj] at hu
  rw [← hu, List.getD_eq_getElem?_getD, List.getElem?_eq_getElem hj]
  rfl
end Go.Proofs.YtkehggbmpdacpabGreatDoor.Lw
