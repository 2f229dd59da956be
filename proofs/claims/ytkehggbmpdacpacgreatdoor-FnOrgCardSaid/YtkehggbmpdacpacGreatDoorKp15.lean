/- The page laws: texts that all of them use, joined (part 15): Pg58, Pg59, Pl1, Pg60, Pg61, PgT, LwQt, PgL, WWords, WSized, Row0, LwK. -/
import Derived.Test.YtkehggbmpdacpacGreatDoorRows
import Derived.PinnedBridge
import Derived.LaidMore
import Derived.MakeChecks
import Derived.Lib.LaidRTab
import Derived.Lib.LaidU8T
import Derived.Lib.LaidTab
import Derived.Below
import Derived.Deep.Draws
import Derived.Deep.AppendLies
import Derived.Maps.AppendAt
import Derived.OwnWalk
import Derived.Laws.BytesArg
import Derived.Laws.MakeOwn
import Derived.Laws.OwnMore
import Derived.Deep.OwnRows
import Derived.Tactics
import Derived.Lib.ConvBytes
import Derived.Laws.Slices
import Derived.WalkKit
import Derived.KernelRfl
import Derived.RowKit3
import Derived.Deep.LoopGhost
import Derived.Deep.QuietTactic
import Derived.BigQuiet
import Derived.WideLaws
import Derived.Deep.DeepCutAuto
import Derived.Deep.CutBlock
import Derived.Deep.RegionHeld3
import Derived.Laws.Rows
import Derived.Lib.AppendStr
import Derived.ArgAppend
import Derived.Laws.IdiomCopy
import Derived.RowKit
import Derived.SizedLaws
import Derived.ChangeSlices
import Derived.SliceStrings
import Derived.ChangeAt
import Derived.ProofKit
import Derived.ShutString
import Derived.ChangeOld
import Derived.Test.YtkehggbmpdacpacGreatDoorKp1
import Derived.Test.YtkehggbmpdacpacGreatDoorKp12
import Derived.Test.YtkehggbmpdacpacGreatDoorKp14
set_option maxRecDepth 100000
set_option linter.unusedVariables false
set_option linter.unusedSimpArgs false
set_option linter.unusedSectionVars false
namespace Go.Proofs.YtkehggbmpdacpacGreatDoor.Pg
open Go.Rx hiding bt
open Go.RowKit Go.Proofs.YtkehggbmpdacpacGreatDoor.Dec0 Go.Proofs.YtkehggbmpdacpacGreatDoor.Lex0
theorem bo35 : bodyB Tryz.prog 42 = true := by kernel_rfl
theorem fb42_2 : fieldB Tryz.prog 51 2 = some 2 := by kernel_rfl
theorem or_pw {a n : Nat} (j : Nat) (hn : 2 ^ j = n) (ha : a < n) (hj : j < 15) : bits .or .u16 (a : Nat) ((n : Nat) : Int) = ((a + n : Nat) : Int) := by
  subst hn
  exact or_pow ha hj
def fstC : Code → Code
  | .seq a _ => a
  | c => c
def bRest (ty : Nat) (nw : Bool) (k : Nat) : Nat := bsum ((answers ty nw).drop k) k
section
variable {w : World} {ty g : Nat} {pos : Int} {tx : ByteArray} {fl : Bool} {is : Int} (hs : tx.size ≤ 4611686018427387904) (ha : ∀ c ∈ tx.data.toList, c.toNat < 128)
include hs ha
theorem bt15 {b : Nat} (hb : b < 32768) (h : b + bRest ty (!isSpT tx.data.toList) 15 = bitsT ty (!isSpT tx.data.toList)) : PJ ⟨111, [], fun _ => False, w⟩ ((sndN 17 (Tryz.f42.body.getD .skip)).wp Tryz.prog (bodyPost Tryz.prog Tryz.f42 (fun e w' => e = .returned (.int .u16 (bitsT ty (!isSpT tx.data.toList) : Nat)) ∧ Below w.heap.size w w'))) [(1, .pointer (some ⟨g, 0, none⟩)), (3, .int .u16 (b : Nat))] [(g, [.int .i64 ty, .int .i64 pos, .string tx, .bool fl, .int .u16 is], .c 51)] := by
  conv => arg 2; arg 2; whnf
  repeat' (first | refine cseq ?_ | refine rtext ?_ | refine cret ?_ | refine jnil ?_ | (first | refine jmv rfl rfl rfl ?_ | refine jas_ rfl rfl rfl ?_))
  exact ret1 rfl rfl rfl (fun w' hw' => ⟨by rw [← h]; rfl, hw'.2.below (fun k _ h => h) (Nat.le_refl _)⟩)
theorem bt14 {b : Nat} (hb : b < 16384) (h : b + bRest ty (!isSpT tx.data.toList) 14 = bitsT ty (!isSpT tx.data.toList)) : PJ ⟨111, [], fun _ => False, w⟩ ((sndN 16 (Tryz.f42.body.getD .skip)).wp Tryz.prog (bodyPost Tryz.prog Tryz.f42 (fun e w' => e = .returned (.int .u16 (bitsT ty (!isSpT tx.data.toList) : Nat)) ∧ Below w.heap.size w w'))) [(1, .pointer (some ⟨g, 0, none⟩)), (3, .int .u16 (b : Nat))] [(g, [.int .i64 ty, .int .i64 pos, .string tx, .bool fl, .int .u16 is], .c 51)] := by
  have e : bRest ty (!isSpT tx.data.toList) 14 = (if (decide (ty = 0)) = true then 2 ^ 14 else 0) + bRest ty (!isSpT tx.data.toList) 15 := rfl
  rw [show sndN 16 (Tryz.f42.body.getD .skip) = Code.seq (fstC (sndN 16 (Tryz.f42.body.getD .skip))) (sndN 17 (Tryz.f42.body.getD .skip)) by kernel_rfl]
  conv => arg 2; arg 2; arg 1; whnf
  repeat' ((fail_if_success (show PJ _ (Code.wp _ (sndN _ _) _) _ _)); first | first | refine cseq ?_ | refine rtext ?_ | refine ctrue rfl ?_ | refine cfalse rfl ?_ | refine cskip ?_ | refine jnil ?_ | (first | refine jmv rfl rfl rfl ?_ | (show Jo _ (.fieldAddr _ _ _); refine jy (yfield rfl fb42_0 rfl) rfl rfl ?_) | (show Jo _ (.load _ _); refine jy (yload (i := 0) rfl rfl rfl one3) rfl rfl ?_) | refine jas_ rfl rfl rfl ?_ | (show Jo _ (.binOp _ _ _ _ _); first | (show Jo _ (.binOp .or _ _ _ _); refine jy (yor (j := ((16384 : Nat) : Int)) (c := ((b + 16384 : Nat) : Int)) rfl rfl (or_pw 14 rfl hb (by decide))) rfl rfl ?_) | refine jeql rfl rfl rfl rfl (fun hq => ?_) (fun hq => ?_))))
  all_goals first
    | exact fin (bt15 hs ha (b := b + 16384) (by omega) (by rw [e, if_pos (show (decide (ty = 0)) = true from decide_eq_true (by omega))] at h; omega)) ⟨rfl, rfl, trivial⟩ rfl
    | exact fin (bt15 hs ha (b := b) (by omega) (by rw [e, if_neg (show ¬ (decide (ty = 0)) = true by rw [show (decide (ty = 0)) = false from decide_eq_false (by omega)]; exact Bool.noConfusion)] at h; omega)) ⟨rfl, rfl, trivial⟩ rfl
theorem bt13 {b : Nat} (hb : b < 8192) (h : b + bRest ty (!isSpT tx.data.toList) 13 = bitsT ty (!isSpT tx.data.toList)) : PJ ⟨111, [], fun _ => False, w⟩ ((sndN 15 (Tryz.f42.body.getD .skip)).wp Tryz.prog (bodyPost Tryz.prog Tryz.f42 (fun e w' => e = .returned (.int .u16 (bitsT ty (!isSpT tx.data.toList) : Nat)) ∧ Below w.heap.size w w'))) [(1, .pointer (some ⟨g, 0, none⟩)), (3, .int .u16 (b : Nat))] [(g, [.int .i64 ty, .int .i64 pos, .string tx, .bool fl, .int .u16 is], .c 51)] := by
  have e : bRest ty (!isSpT tx.data.toList) 13 = (if (decide (ty = 1)) = true then 2 ^ 13 else 0) + bRest ty (!isSpT tx.data.toList) 14 := rfl
  rw [show sndN 15 (Tryz.f42.body.getD .skip) = Code.seq (fstC (sndN 15 (Tryz.f42.body.getD .skip))) (sndN 16 (Tryz.f42.body.getD .skip)) by kernel_rfl]
  conv => arg 2; arg 2; arg 1; whnf
  repeat' ((fail_if_success (show PJ _ (Code.wp _ (sndN _ _) _) _ _)); first | first | refine cseq ?_ | refine rtext ?_ | refine ctrue rfl ?_ | refine cfalse rfl ?_ | refine cskip ?_ | refine jnil ?_ | (first | refine jmv rfl rfl rfl ?_ | (show Jo _ (.fieldAddr _ _ _); refine jy (yfield rfl fb42_0 rfl) rfl rfl ?_) | (show Jo _ (.load _ _); refine jy (yload (i := 0) rfl rfl rfl one3) rfl rfl ?_) | refine jas_ rfl rfl rfl ?_ | (show Jo _ (.binOp _ _ _ _ _); first | (show Jo _ (.binOp .or _ _ _ _); refine jy (yor (j := ((8192 : Nat) : Int)) (c := ((b + 8192 : Nat) : Int)) rfl rfl (or_pw 13 rfl hb (by decide))) rfl rfl ?_) | refine jeql rfl rfl rfl rfl (fun hq => ?_) (fun hq => ?_))))
  all_goals first
    | exact fin (bt14 hs ha (b := b + 8192) (by omega) (by rw [e, if_pos (show (decide (ty = 1)) = true from decide_eq_true (by omega))] at h; omega)) ⟨rfl, rfl, trivial⟩ rfl
    | exact fin (bt14 hs ha (b := b) (by omega) (by rw [e, if_neg (show ¬ (decide (ty = 1)) = true by rw [show (decide (ty = 1)) = false from decide_eq_false (by omega)]; exact Bool.noConfusion)] at h; omega)) ⟨rfl, rfl, trivial⟩ rfl
theorem bt12 {b : Nat} (hb : b < 4096) (h : b + bRest ty (!isSpT tx.data.toList) 12 = bitsT ty (!isSpT tx.data.toList)) : PJ ⟨111, [], fun _ => False, w⟩ ((sndN 14 (Tryz.f42.body.getD .skip)).wp Tryz.prog (bodyPost Tryz.prog Tryz.f42 (fun e w' => e = .returned (.int .u16 (bitsT ty (!isSpT tx.data.toList) : Nat)) ∧ Below w.heap.size w w'))) [(1, .pointer (some ⟨g, 0, none⟩)), (3, .int .u16 (b : Nat))] [(g, [.int .i64 ty, .int .i64 pos, .string tx, .bool fl, .int .u16 is], .c 51)] := by
  have e : bRest ty (!isSpT tx.data.toList) 12 = (if (decide (ty = 0 ∨ ty = 1)) = true then 2 ^ 12 else 0) + bRest ty (!isSpT tx.data.toList) 13 := rfl
  rw [show sndN 14 (Tryz.f42.body.getD .skip) = Code.seq (fstC (sndN 14 (Tryz.f42.body.getD .skip))) (sndN 15 (Tryz.f42.body.getD .skip)) by kernel_rfl]
  conv => arg 2; arg 2; arg 1; whnf
  repeat' ((fail_if_success (show PJ _ (Code.wp _ (sndN _ _) _) _ _)); first | first | refine cseq ?_ | refine rtext ?_ | refine ctrue rfl ?_ | refine cfalse rfl ?_ | refine cskip ?_ | refine jnil ?_ | (first | refine js rfl rfl ?_ | refine jmv rfl rfl rfl ?_ | (show Jo _ (.fieldAddr _ _ _); refine jy (yfield rfl fb42_0 rfl) rfl rfl ?_) | (show Jo _ (.load _ _); refine jy (yload (i := 0) rfl rfl rfl one3) rfl rfl ?_) | refine jas_ rfl rfl rfl ?_ | (show Jo _ (.binOp _ _ _ _ _); first | (show Jo _ (.binOp .or _ _ _ _); refine jy (yor (j := ((4096 : Nat) : Int)) (c := ((b + 4096 : Nat) : Int)) rfl rfl (or_pw 12 rfl hb (by decide))) rfl rfl ?_) | refine jeql rfl rfl rfl rfl (fun hq => ?_) (fun hq => ?_)) | (show Jo _ (.pick _ _ _); first | refine jy (ypick1 rfl rfl) rfl rfl ?_ | refine jy (ypick0 rfl rfl) rfl rfl ?_)))
  all_goals first
    | exact fin (bt13 hs ha (b := b + 4096) (by omega) (by rw [e, if_pos (show (decide (ty = 0 ∨ ty = 1)) = true from decide_eq_true (by omega))] at h; omega)) ⟨rfl, rfl, trivial⟩ rfl
    | exact fin (bt13 hs ha (b := b) (by omega) (by rw [e, if_neg (show ¬ (decide (ty = 0 ∨ ty = 1)) = true by rw [show (decide (ty = 0 ∨ ty = 1)) = false from decide_eq_false (by omega)]; exact Bool.noConfusion)] at h; omega)) ⟨rfl, rfl, trivial⟩ rfl
theorem bt11 {b : Nat} (hb : b < 2048) (h : b + bRest ty (!isSpT tx.data.toList) 11 = bitsT ty (!isSpT tx.data.toList)) : PJ ⟨111, [], fun _ => False, w⟩ ((sndN 13 (Tryz.f42.body.getD .skip)).wp Tryz.prog (bodyPost Tryz.prog Tryz.f42 (fun e w' => e = .returned (.int .u16 (bitsT ty (!isSpT tx.data.toList) : Nat)) ∧ Below w.heap.size w w'))) [(1, .pointer (some ⟨g, 0, none⟩)), (3, .int .u16 (b : Nat))] [(g, [.int .i64 ty, .int .i64 pos, .string tx, .bool fl, .int .u16 is], .c 51)] := by
  have e : bRest ty (!isSpT tx.data.toList) 11 = (if (decide (3 ≤ ty ∧ ty ≤ 6)) = true then 2 ^ 11 else 0) + bRest ty (!isSpT tx.data.toList) 12 := rfl
  rw [show sndN 13 (Tryz.f42.body.getD .skip) = Code.seq (fstC (sndN 13 (Tryz.f42.body.getD .skip))) (sndN 14 (Tryz.f42.body.getD .skip)) by kernel_rfl]
  conv => arg 2; arg 2; arg 1; whnf
  repeat' ((fail_if_success (show PJ _ (Code.wp _ (sndN _ _) _) _ _)); first | first | refine cseq ?_ | refine rtext ?_ | refine ctrue rfl ?_ | refine cfalse rfl ?_ | refine cskip ?_ | refine jnil ?_ | (first | refine js rfl rfl ?_ | refine jmv rfl rfl rfl ?_ | (show Jo _ (.fieldAddr _ _ _); refine jy (yfield rfl fb42_0 rfl) rfl rfl ?_) | (show Jo _ (.load _ _); refine jy (yload (i := 0) rfl rfl rfl one3) rfl rfl ?_) | refine jas_ rfl rfl rfl ?_ | (show Jo _ (.binOp _ _ _ _ _); first | (show Jo _ (.binOp .or _ _ _ _); refine jy (yor (j := ((2048 : Nat) : Int)) (c := ((b + 2048 : Nat) : Int)) rfl rfl (or_pw 11 rfl hb (by decide))) rfl rfl ?_) | (show Jo _ (.binOp .leq _ _ _ _); refine jleq rfl rfl rfl rfl (fun hq => ?_) (fun hq => ?_)) | refine jgeq rfl rfl rfl rfl (fun hq => ?_) (fun hq => ?_)) | (show Jo _ (.pick _ _ _); first | refine jy (ypick1 rfl rfl) rfl rfl ?_ | refine jy (ypick0 rfl rfl) rfl rfl ?_)))
  all_goals first
    | exact fin (bt12 hs ha (b := b + 2048) (by omega) (by rw [e, if_pos (show (decide (3 ≤ ty ∧ ty ≤ 6)) = true from decide_eq_true (by omega))] at h; omega)) ⟨rfl, rfl, trivial⟩ rfl
    | exact fin (bt12 hs ha (b := b) (by omega) (by rw [e, if_neg (show ¬ (decide (3 ≤ ty ∧ ty ≤ 6)) = true by rw [show (decide (3 ≤ ty ∧ ty ≤ 6)) = false from decide_eq_false (by omega)]; exact Bool.noConfusion)] at h; omega)) ⟨rfl, rfl, trivial⟩ rfl
theorem bt10 {b : Nat} (hb : b < 1024) (h : b + bRest ty (!isSpT tx.data.toList) 10 = bitsT ty (!isSpT tx.data.toList)) : PJ ⟨111, [], fun _ => False, w⟩ ((sndN 12 (Tryz.f42.body.getD .skip)).wp Tryz.prog (bodyPost Tryz.prog Tryz.f42 (fun e w' => e = .returned (.int .u16 (bitsT ty (!isSpT tx.data.toList) : Nat)) ∧ Below w.heap.size w w'))) [(1, .pointer (some ⟨g, 0, none⟩)), (3, .int .u16 (b : Nat))] [(g, [.int .i64 ty, .int .i64 pos, .string tx, .bool fl, .int .u16 is], .c 51)] := by
  have e : bRest ty (!isSpT tx.data.toList) 10 = (if (decide (ty = 10 ∨ ty = 11)) = true then 2 ^ 10 else 0) + bRest ty (!isSpT tx.data.toList) 11 := rfl
  rw [show sndN 12 (Tryz.f42.body.getD .skip) = Code.seq (fstC (sndN 12 (Tryz.f42.body.getD .skip))) (sndN 13 (Tryz.f42.body.getD .skip)) by kernel_rfl]
  conv => arg 2; arg 2; arg 1; whnf
  repeat' ((fail_if_success (show PJ _ (Code.wp _ (sndN _ _) _) _ _)); first | first | refine cseq ?_ | refine rtext ?_ | refine ctrue rfl ?_ | refine cfalse rfl ?_ | refine cskip ?_ | refine jnil ?_ | (first | refine js rfl rfl ?_ | refine jmv rfl rfl rfl ?_ | (show Jo _ (.fieldAddr _ _ _); refine jy (yfield rfl fb42_0 rfl) rfl rfl ?_) | (show Jo _ (.load _ _); refine jy (yload (i := 0) rfl rfl rfl one3) rfl rfl ?_) | refine jas_ rfl rfl rfl ?_ | (show Jo _ (.binOp _ _ _ _ _); first | (show Jo _ (.binOp .or _ _ _ _); refine jy (yor (j := ((1024 : Nat) : Int)) (c := ((b + 1024 : Nat) : Int)) rfl rfl (or_pw 10 rfl hb (by decide))) rfl rfl ?_) | refine jeql rfl rfl rfl rfl (fun hq => ?_) (fun hq => ?_)) | (show Jo _ (.pick _ _ _); first | refine jy (ypick1 rfl rfl) rfl rfl ?_ | refine jy (ypick0 rfl rfl) rfl rfl ?_)))
  all_goals first
    | exact fin (bt11 hs ha (b := b + 1024) (by omega) (by rw [e, if_pos (show (decide (ty = 10 ∨ ty = 11)) = true from decide_eq_true (by omega))] at h; omega)) ⟨rfl, rfl, trivial⟩ rfl
    | exact fin (bt11 hs ha (b := b) (by omega) (by rw [e, if_neg (show ¬ (decide (ty = 10 ∨ ty = 11)) = true by rw [show (decide (ty = 10 ∨ ty = 11)) = false from decide_eq_false (by omega)]; exact Bool.noConfusion)] at h; omega)) ⟨rfl, rfl, trivial⟩ rfl
theorem bt9 {b : Nat} (hb : b < 512) (h : b + bRest ty (!isSpT tx.data.toList) 9 = bitsT ty (!isSpT tx.data.toList)) : PJ ⟨111, [], fun _ => False, w⟩ ((sndN 11 (Tryz.f42.body.getD .skip)).wp Tryz.prog (bodyPost Tryz.prog Tryz.f42 (fun e w' => e = .returned (.int .u16 (bitsT ty (!isSpT tx.data.toList) : Nat)) ∧ Below w.heap.size w w'))) [(1, .pointer (some ⟨g, 0, none⟩)), (3, .int .u16 (b : Nat))] [(g, [.int .i64 ty, .int .i64 pos, .string tx, .bool fl, .int .u16 is], .c 51)] := by
  have e : bRest ty (!isSpT tx.data.toList) 9 = (if (decide (ty = 16)) = true then 2 ^ 9 else 0) + bRest ty (!isSpT tx.data.toList) 10 := rfl
  rw [show sndN 11 (Tryz.f42.body.getD .skip) = Code.seq (fstC (sndN 11 (Tryz.f42.body.getD .skip))) (sndN 12 (Tryz.f42.body.getD .skip)) by kernel_rfl]
  conv => arg 2; arg 2; arg 1; whnf
  repeat' ((fail_if_success (show PJ _ (Code.wp _ (sndN _ _) _) _ _)); first | first | refine cseq ?_ | refine rtext ?_ | refine ctrue rfl ?_ | refine cfalse rfl ?_ | refine cskip ?_ | refine jnil ?_ | (first | refine jmv rfl rfl rfl ?_ | (show Jo _ (.fieldAddr _ _ _); refine jy (yfield rfl fb42_0 rfl) rfl rfl ?_) | (show Jo _ (.load _ _); refine jy (yload (i := 0) rfl rfl rfl one3) rfl rfl ?_) | refine jas_ rfl rfl rfl ?_ | (show Jo _ (.binOp _ _ _ _ _); first | (show Jo _ (.binOp .or _ _ _ _); refine jy (yor (j := ((512 : Nat) : Int)) (c := ((b + 512 : Nat) : Int)) rfl rfl (or_pw 9 rfl hb (by decide))) rfl rfl ?_) | refine jeql rfl rfl rfl rfl (fun hq => ?_) (fun hq => ?_))))
  all_goals first
    | exact fin (bt10 hs ha (b := b + 512) (by omega) (by rw [e, if_pos (show (decide (ty = 16)) = true from decide_eq_true (by omega))] at h; omega)) ⟨rfl, rfl, trivial⟩ rfl
    | exact fin (bt10 hs ha (b := b) (by omega) (by rw [e, if_neg (show ¬ (decide (ty = 16)) = true by rw [show (decide (ty = 16)) = false from decide_eq_false (by omega)]; exact Bool.noConfusion)] at h; omega)) ⟨rfl, rfl, trivial⟩ rfl
theorem bt8 {b : Nat} (hb : b < 256) (h : b + bRest ty (!isSpT tx.data.toList) 8 = bitsT ty (!isSpT tx.data.toList)) : PJ ⟨111, [], fun _ => False, w⟩ ((sndN 10 (Tryz.f42.body.getD .skip)).wp Tryz.prog (bodyPost Tryz.prog Tryz.f42 (fun e w' => e = .returned (.int .u16 (bitsT ty (!isSpT tx.data.toList) : Nat)) ∧ Below w.heap.size w w'))) [(1, .pointer (some ⟨g, 0, none⟩)), (3, .int .u16 (b : Nat))] [(g, [.int .i64 ty, .int .i64 pos, .string tx, .bool fl, .int .u16 is], .c 51)] := by
  have e : bRest ty (!isSpT tx.data.toList) 8 = (if (decide (ty = 15)) = true then 2 ^ 8 else 0) + bRest ty (!isSpT tx.data.toList) 9 := rfl
  rw [show sndN 10 (Tryz.f42.body.getD .skip) = Code.seq (fstC (sndN 10 (Tryz.f42.body.getD .skip))) (sndN 11 (Tryz.f42.body.getD .skip)) by kernel_rfl]
  conv => arg 2; arg 2; arg 1; whnf
  repeat' ((fail_if_success (show PJ _ (Code.wp _ (sndN _ _) _) _ _)); first | first | refine cseq ?_ | refine rtext ?_ | refine ctrue rfl ?_ | refine cfalse rfl ?_ | refine cskip ?_ | refine jnil ?_ | (first | refine jmv rfl rfl rfl ?_ | (show Jo _ (.fieldAddr _ _ _); refine jy (yfield rfl fb42_0 rfl) rfl rfl ?_) | (show Jo _ (.load _ _); refine jy (yload (i := 0) rfl rfl rfl one3) rfl rfl ?_) | refine jas_ rfl rfl rfl ?_ | (show Jo _ (.binOp _ _ _ _ _); first | (show Jo _ (.binOp .or _ _ _ _); refine jy (yor (j := ((256 : Nat) : Int)) (c := ((b + 256 : Nat) : Int)) rfl rfl (or_pw 8 rfl hb (by decide))) rfl rfl ?_) | refine jeql rfl rfl rfl rfl (fun hq => ?_) (fun hq => ?_))))
  all_goals first
    | exact fin (bt9 hs ha (b := b + 256) (by omega) (by rw [e, if_pos (show (decide (ty = 15)) = true from decide_eq_true (by omega))] at h; omega)) ⟨rfl, rfl, trivial⟩ rfl
    | exact fin (bt9 hs ha (b := b) (by omega) (by rw [e, if_neg (show ¬ (decide (ty = 15)) = true by rw [show (decide (ty = 15)) = false from decide_eq_false (by omega)]; exact Bool.noConfusion)] at h; omega)) ⟨rfl, rfl, trivial⟩ rfl
theorem bt7 {b : Nat} (hb : b < 128) (h : b + bRest ty (!isSpT tx.data.toList) 7 = bitsT ty (!isSpT tx.data.toList)) : PJ ⟨111, [], fun _ => False, w⟩ ((sndN 9 (Tryz.f42.body.getD .skip)).wp Tryz.prog (bodyPost Tryz.prog Tryz.f42 (fun e w' => e = .returned (.int .u16 (bitsT ty (!isSpT tx.data.toList) : Nat)) ∧ Below w.heap.size w w'))) [(1, .pointer (some ⟨g, 0, none⟩)), (3, .int .u16 (b : Nat))] [(g, [.int .i64 ty, .int .i64 pos, .string tx, .bool fl, .int .u16 is], .c 51)] := by
  have e : bRest ty (!isSpT tx.data.toList) 7 = (if (decide (ty = 12)) = true then 2 ^ 7 else 0) + bRest ty (!isSpT tx.data.toList) 8 := rfl
  rw [show sndN 9 (Tryz.f42.body.getD .skip) = Code.seq (fstC (sndN 9 (Tryz.f42.body.getD .skip))) (sndN 10 (Tryz.f42.body.getD .skip)) by kernel_rfl]
  conv => arg 2; arg 2; arg 1; whnf
  repeat' ((fail_if_success (show PJ _ (Code.wp _ (sndN _ _) _) _ _)); first | first | refine cseq ?_ | refine rtext ?_ | refine ctrue rfl ?_ | refine cfalse rfl ?_ | refine cskip ?_ | refine jnil ?_ | (first | refine jmv rfl rfl rfl ?_ | (show Jo _ (.fieldAddr _ _ _); refine jy (yfield rfl fb42_0 rfl) rfl rfl ?_) | (show Jo _ (.load _ _); refine jy (yload (i := 0) rfl rfl rfl one3) rfl rfl ?_) | refine jas_ rfl rfl rfl ?_ | (show Jo _ (.binOp _ _ _ _ _); first | (show Jo _ (.binOp .or _ _ _ _); refine jy (yor (j := ((128 : Nat) : Int)) (c := ((b + 128 : Nat) : Int)) rfl rfl (or_pw 7 rfl hb (by decide))) rfl rfl ?_) | refine jeql rfl rfl rfl rfl (fun hq => ?_) (fun hq => ?_))))
  all_goals first
    | exact fin (bt8 hs ha (b := b + 128) (by omega) (by rw [e, if_pos (show (decide (ty = 12)) = true from decide_eq_true (by omega))] at h; omega)) ⟨rfl, rfl, trivial⟩ rfl
    | exact fin (bt8 hs ha (b := b) (by omega) (by rw [e, if_neg (show ¬ (decide (ty = 12)) = true by rw [show (decide (ty = 12)) = false from decide_eq_false (by omega)]; exact Bool.noConfusion)] at h; omega)) ⟨rfl, rfl, trivial⟩ rfl
theorem bt6 {b : Nat} (hb : b < 64) (h : b + bRest ty (!isSpT tx.data.toList) 6 = bitsT ty (!isSpT tx.data.toList)) : PJ ⟨111, [], fun _ => False, w⟩ ((sndN 8 (Tryz.f42.body.getD .skip)).wp Tryz.prog (bodyPost Tryz.prog Tryz.f42 (fun e w' => e = .returned (.int .u16 (bitsT ty (!isSpT tx.data.toList) : Nat)) ∧ Below w.heap.size w w'))) [(1, .pointer (some ⟨g, 0, none⟩)), (3, .int .u16 (b : Nat))] [(g, [.int .i64 ty, .int .i64 pos, .string tx, .bool fl, .int .u16 is], .c 51)] := by
  have e : bRest ty (!isSpT tx.data.toList) 6 = (if (decide (ty = 11 ∨ ty = 9)) = true then 2 ^ 6 else 0) + bRest ty (!isSpT tx.data.toList) 7 := rfl
  rw [show sndN 8 (Tryz.f42.body.getD .skip) = Code.seq (fstC (sndN 8 (Tryz.f42.body.getD .skip))) (sndN 9 (Tryz.f42.body.getD .skip)) by kernel_rfl]
  conv => arg 2; arg 2; arg 1; whnf
  repeat' ((fail_if_success (show PJ _ (Code.wp _ (sndN _ _) _) _ _)); first | first | refine cseq ?_ | refine rtext ?_ | refine ctrue rfl ?_ | refine cfalse rfl ?_ | refine cskip ?_ | refine jnil ?_ | (first | refine js rfl rfl ?_ | refine jmv rfl rfl rfl ?_ | (show Jo _ (.fieldAddr _ _ _); refine jy (yfield rfl fb42_0 rfl) rfl rfl ?_) | (show Jo _ (.load _ _); refine jy (yload (i := 0) rfl rfl rfl one3) rfl rfl ?_) | refine jas_ rfl rfl rfl ?_ | (show Jo _ (.binOp _ _ _ _ _); first | (show Jo _ (.binOp .or _ _ _ _); refine jy (yor (j := ((64 : Nat) : Int)) (c := ((b + 64 : Nat) : Int)) rfl rfl (or_pw 6 rfl hb (by decide))) rfl rfl ?_) | refine jeql rfl rfl rfl rfl (fun hq => ?_) (fun hq => ?_)) | (show Jo _ (.pick _ _ _); first | refine jy (ypick1 rfl rfl) rfl rfl ?_ | refine jy (ypick0 rfl rfl) rfl rfl ?_)))
  all_goals first
    | exact fin (bt7 hs ha (b := b + 64) (by omega) (by rw [e, if_pos (show (decide (ty = 11 ∨ ty = 9)) = true from decide_eq_true (by omega))] at h; omega)) ⟨rfl, rfl, trivial⟩ rfl
    | exact fin (bt7 hs ha (b := b) (by omega) (by rw [e, if_neg (show ¬ (decide (ty = 11 ∨ ty = 9)) = true by rw [show (decide (ty = 11 ∨ ty = 9)) = false from decide_eq_false (by omega)]; exact Bool.noConfusion)] at h; omega)) ⟨rfl, rfl, trivial⟩ rfl
theorem bt5 {b : Nat} (hb : b < 32) (h : b + bRest ty (!isSpT tx.data.toList) 5 = bitsT ty (!isSpT tx.data.toList)) : PJ ⟨111, [], fun _ => False, w⟩ ((sndN 7 (Tryz.f42.body.getD .skip)).wp Tryz.prog (bodyPost Tryz.prog Tryz.f42 (fun e w' => e = .returned (.int .u16 (bitsT ty (!isSpT tx.data.toList) : Nat)) ∧ Below w.heap.size w w'))) [(1, .pointer (some ⟨g, 0, none⟩)), (3, .int .u16 (b : Nat))] [(g, [.int .i64 ty, .int .i64 pos, .string tx, .bool fl, .int .u16 is], .c 51)] := by
  have e : bRest ty (!isSpT tx.data.toList) 5 = (if (decide (ty = 10 ∨ ty = 8)) = true then 2 ^ 5 else 0) + bRest ty (!isSpT tx.data.toList) 6 := rfl
  rw [show sndN 7 (Tryz.f42.body.getD .skip) = Code.seq (fstC (sndN 7 (Tryz.f42.body.getD .skip))) (sndN 8 (Tryz.f42.body.getD .skip)) by kernel_rfl]
  conv => arg 2; arg 2; arg 1; whnf
  repeat' ((fail_if_success (show PJ _ (Code.wp _ (sndN _ _) _) _ _)); first | first | refine cseq ?_ | refine rtext ?_ | refine ctrue rfl ?_ | refine cfalse rfl ?_ | refine cskip ?_ | refine jnil ?_ | (first | refine js rfl rfl ?_ | refine jmv rfl rfl rfl ?_ | (show Jo _ (.fieldAddr _ _ _); refine jy (yfield rfl fb42_0 rfl) rfl rfl ?_) | (show Jo _ (.load _ _); refine jy (yload (i := 0) rfl rfl rfl one3) rfl rfl ?_) | refine jas_ rfl rfl rfl ?_ | (show Jo _ (.binOp _ _ _ _ _); first | (show Jo _ (.binOp .or _ _ _ _); refine jy (yor (j := ((32 : Nat) : Int)) (c := ((b + 32 : Nat) : Int)) rfl rfl (or_pw 5 rfl hb (by decide))) rfl rfl ?_) | refine jeql rfl rfl rfl rfl (fun hq => ?_) (fun hq => ?_)) | (show Jo _ (.pick _ _ _); first | refine jy (ypick1 rfl rfl) rfl rfl ?_ | refine jy (ypick0 rfl rfl) rfl rfl ?_)))
  all_goals first
    | exact fin (bt6 hs ha (b := b + 32) (by omega) (by rw [e, if_pos (show (decide (ty = 10 ∨ ty = 8)) = true from decide_eq_true (by omega))] at h; omega)) ⟨rfl, rfl, trivial⟩ rfl
    | exact fin (bt6 hs ha (b := b) (by omega) (by rw [e, if_neg (show ¬ (decide (ty = 10 ∨ ty = 8)) = true by rw [show (decide (ty = 10 ∨ ty = 8)) = false from decide_eq_false (by omega)]; exact Bool.noConfusion)] at h; omega)) ⟨rfl, rfl, trivial⟩ rfl
theorem bt4 {b : Nat} (hb : b < 16) (h : b + bRest ty (!isSpT tx.data.toList) 4 = bitsT ty (!isSpT tx.data.toList)) : PJ ⟨111, [], fun _ => False, w⟩ ((sndN 6 (Tryz.f42.body.getD .skip)).wp Tryz.prog (bodyPost Tryz.prog Tryz.f42 (fun e w' => e = .returned (.int .u16 (bitsT ty (!isSpT tx.data.toList) : Nat)) ∧ Below w.heap.size w w'))) [(1, .pointer (some ⟨g, 0, none⟩)), (3, .int .u16 (b : Nat))] [(g, [.int .i64 ty, .int .i64 pos, .string tx, .bool fl, .int .u16 is], .c 51)] := by
  have e : bRest ty (!isSpT tx.data.toList) 4 = (if (decide (ty = 14)) = true then 2 ^ 4 else 0) + bRest ty (!isSpT tx.data.toList) 5 := rfl
  rw [show sndN 6 (Tryz.f42.body.getD .skip) = Code.seq (fstC (sndN 6 (Tryz.f42.body.getD .skip))) (sndN 7 (Tryz.f42.body.getD .skip)) by kernel_rfl]
  conv => arg 2; arg 2; arg 1; whnf
  repeat' ((fail_if_success (show PJ _ (Code.wp _ (sndN _ _) _) _ _)); first | first | refine cseq ?_ | refine rtext ?_ | refine ctrue rfl ?_ | refine cfalse rfl ?_ | refine cskip ?_ | refine jnil ?_ | (first | refine jmv rfl rfl rfl ?_ | (show Jo _ (.fieldAddr _ _ _); refine jy (yfield rfl fb42_0 rfl) rfl rfl ?_) | (show Jo _ (.load _ _); refine jy (yload (i := 0) rfl rfl rfl one3) rfl rfl ?_) | refine jas_ rfl rfl rfl ?_ | (show Jo _ (.binOp _ _ _ _ _); first | (show Jo _ (.binOp .or _ _ _ _); refine jy (yor (j := ((16 : Nat) : Int)) (c := ((b + 16 : Nat) : Int)) rfl rfl (or_pw 4 rfl hb (by decide))) rfl rfl ?_) | refine jeql rfl rfl rfl rfl (fun hq => ?_) (fun hq => ?_))))
  all_goals first
    | exact fin (bt5 hs ha (b := b + 16) (by omega) (by rw [e, if_pos (show (decide (ty = 14)) = true from decide_eq_true (by omega))] at h; omega)) ⟨rfl, rfl, trivial⟩ rfl
    | exact fin (bt5 hs ha (b := b) (by omega) (by rw [e, if_neg (show ¬ (decide (ty = 14)) = true by rw [show (decide (ty = 14)) = false from decide_eq_false (by omega)]; exact Bool.noConfusion)] at h; omega)) ⟨rfl, rfl, trivial⟩ rfl
theorem bt3 {b : Nat} (hb : b < 8) (h : b + bRest ty (!isSpT tx.data.toList) 3 = bitsT ty (!isSpT tx.data.toList)) : PJ ⟨111, [], fun _ => False, w⟩ ((sndN 5 (Tryz.f42.body.getD .skip)).wp Tryz.prog (bodyPost Tryz.prog Tryz.f42 (fun e w' => e = .returned (.int .u16 (bitsT ty (!isSpT tx.data.toList) : Nat)) ∧ Below w.heap.size w w'))) [(1, .pointer (some ⟨g, 0, none⟩)), (3, .int .u16 (b : Nat))] [(g, [.int .i64 ty, .int .i64 pos, .string tx, .bool fl, .int .u16 is], .c 51)] := by
  have e : bRest ty (!isSpT tx.data.toList) 3 = (if (decide (ty = 13)) = true then 2 ^ 3 else 0) + bRest ty (!isSpT tx.data.toList) 4 := rfl
  rw [show sndN 5 (Tryz.f42.body.getD .skip) = Code.seq (fstC (sndN 5 (Tryz.f42.body.getD .skip))) (sndN 6 (Tryz.f42.body.getD .skip)) by kernel_rfl]
  conv => arg 2; arg 2; arg 1; whnf
  repeat' ((fail_if_success (show PJ _ (Code.wp _ (sndN _ _) _) _ _)); first | first | refine cseq ?_ | refine rtext ?_ | refine ctrue rfl ?_ | refine cfalse rfl ?_ | refine cskip ?_ | refine jnil ?_ | (first | refine jmv rfl rfl rfl ?_ | (show Jo _ (.fieldAddr _ _ _); refine jy (yfield rfl fb42_0 rfl) rfl rfl ?_) | (show Jo _ (.load _ _); refine jy (yload (i := 0) rfl rfl rfl one3) rfl rfl ?_) | refine jas_ rfl rfl rfl ?_ | (show Jo _ (.binOp _ _ _ _ _); first | (show Jo _ (.binOp .or _ _ _ _); refine jy (yor (j := ((8 : Nat) : Int)) (c := ((b + 8 : Nat) : Int)) rfl rfl (or_pw 3 rfl hb (by decide))) rfl rfl ?_) | refine jeql rfl rfl rfl rfl (fun hq => ?_) (fun hq => ?_))))
  all_goals first
    | exact fin (bt4 hs ha (b := b + 8) (by omega) (by rw [e, if_pos (show (decide (ty = 13)) = true from decide_eq_true (by omega))] at h; omega)) ⟨rfl, rfl, trivial⟩ rfl
    | exact fin (bt4 hs ha (b := b) (by omega) (by rw [e, if_neg (show ¬ (decide (ty = 13)) = true by rw [show (decide (ty = 13)) = false from decide_eq_false (by omega)]; exact Bool.noConfusion)] at h; omega)) ⟨rfl, rfl, trivial⟩ rfl
theorem bt2 {b : Nat} (hb : b < 4) (h : b + bRest ty (!isSpT tx.data.toList) 2 = bitsT ty (!isSpT tx.data.toList)) : PJ ⟨111, [], fun _ => False, w⟩ ((sndN 4 (Tryz.f42.body.getD .skip)).wp Tryz.prog (bodyPost Tryz.prog Tryz.f42 (fun e w' => e = .returned (.int .u16 (bitsT ty (!isSpT tx.data.toList) : Nat)) ∧ Below w.heap.size w w'))) [(1, .pointer (some ⟨g, 0, none⟩)), (3, .int .u16 (b : Nat))] [(g, [.int .i64 ty, .int .i64 pos, .string tx, .bool fl, .int .u16 is], .c 51)] := by
  have e : bRest ty (!isSpT tx.data.toList) 2 = (if (!isSpT tx.data.toList) = true then 2 ^ 2 else 0) + bRest ty (!isSpT tx.data.toList) 3 := rfl
  rw [show sndN 4 (Tryz.f42.body.getD .skip) = Code.seq (fstC (sndN 4 (Tryz.f42.body.getD .skip))) (sndN 5 (Tryz.f42.body.getD .skip)) by kernel_rfl]
  conv => arg 2; arg 2; arg 1; whnf
  repeat' ((fail_if_success (show PJ _ (Code.wp _ (sndN _ _) _) _ _)); first | first | refine cseq ?_ | refine rtext ?_ | refine ctrue rfl ?_ | refine cfalse rfl ?_ | refine cskip ?_ | refine jnil ?_ | (first | refine jmv rfl rfl rfl ?_ | (show Jo _ (.fieldAddr _ _ _); refine jy (yfield rfl fb42_2 rfl) rfl rfl ?_) | (show Jo _ (.load _ _); refine jy (yload (i := 0) rfl rfl rfl one3) rfl rfl ?_) | refine jas_ rfl rfl rfl ?_ | (show Jo _ (.binOp _ _ _ _ _); ((show Jo _ (.binOp .or _ _ _ _); refine jy (yor (j := ((4 : Nat) : Int)) (c := ((b + 4 : Nat) : Int)) rfl rfl (or_pw 2 rfl hb (by decide))) rfl rfl ?_))) | refine jy (ynot rfl rfl) rfl rfl ?_ | (show Jo _ (.call _); ((show Jo _ (.call ⟨.value (.func 64), _, _⟩); refine jcallq Lw.boSp rfl rfl rfl (quietC fun w _ => Lw.pageSpace_calls tx w hs ha) ?_; refine jcases (fun hw => ?_) (fun hw => ?_))))))
  all_goals first
    | exact fin (bt3 hs ha (b := b + 4) (by omega) (by rw [e, if_pos (show (!isSpT tx.data.toList) = true from by rw [hw]; rfl)] at h; omega)) ⟨rfl, rfl, trivial⟩ rfl
    | exact fin (bt3 hs ha (b := b) (by omega) (by rw [e, if_neg (show ¬ (!isSpT tx.data.toList) = true by rw [show (!isSpT tx.data.toList) = false from by rw [hw]; rfl]; exact Bool.noConfusion)] at h; omega)) ⟨rfl, rfl, trivial⟩ rfl
theorem bt1 {b : Nat} (hb : b < 2) (h : b + bRest ty (!isSpT tx.data.toList) 1 = bitsT ty (!isSpT tx.data.toList)) : PJ ⟨111, [], fun _ => False, w⟩ ((sndN 3 (Tryz.f42.body.getD .skip)).wp Tryz.prog (bodyPost Tryz.prog Tryz.f42 (fun e w' => e = .returned (.int .u16 (bitsT ty (!isSpT tx.data.toList) : Nat)) ∧ Below w.heap.size w w'))) [(1, .pointer (some ⟨g, 0, none⟩)), (3, .int .u16 (b : Nat))] [(g, [.int .i64 ty, .int .i64 pos, .string tx, .bool fl, .int .u16 is], .c 51)] := by
  have e : bRest ty (!isSpT tx.data.toList) 1 = (if (decide (ty = 17)) = true then 2 ^ 1 else 0) + bRest ty (!isSpT tx.data.toList) 2 := rfl
  rw [show sndN 3 (Tryz.f42.body.getD .skip) = Code.seq (fstC (sndN 3 (Tryz.f42.body.getD .skip))) (sndN 4 (Tryz.f42.body.getD .skip)) by kernel_rfl]
  conv => arg 2; arg 2; arg 1; whnf
  repeat' ((fail_if_success (show PJ _ (Code.wp _ (sndN _ _) _) _ _)); first | first | refine cseq ?_ | refine rtext ?_ | refine ctrue rfl ?_ | refine cfalse rfl ?_ | refine cskip ?_ | refine jnil ?_ | (first | refine jmv rfl rfl rfl ?_ | (show Jo _ (.fieldAddr _ _ _); refine jy (yfield rfl fb42_0 rfl) rfl rfl ?_) | (show Jo _ (.load _ _); refine jy (yload (i := 0) rfl rfl rfl one3) rfl rfl ?_) | refine jas_ rfl rfl rfl ?_ | (show Jo _ (.binOp _ _ _ _ _); first | (show Jo _ (.binOp .or _ _ _ _); refine jy (yor (j := ((2 : Nat) : Int)) (c := ((b + 2 : Nat) : Int)) rfl rfl (or_pw 1 rfl hb (by decide))) rfl rfl ?_) | refine jeql rfl rfl rfl rfl (fun hq => ?_) (fun hq => ?_))))
  all_goals first
    | exact fin (bt2 hs ha (b := b + 2) (by omega) (by rw [e, if_pos (show (decide (ty = 17)) = true from decide_eq_true (by omega))] at h; omega)) ⟨rfl, rfl, trivial⟩ rfl
    | exact fin (bt2 hs ha (b := b) (by omega) (by rw [e, if_neg (show ¬ (decide (ty = 17)) = true by rw [show (decide (ty = 17)) = false from decide_eq_false (by omega)]; exact Bool.noConfusion)] at h; omega)) ⟨rfl, rfl, trivial⟩ rfl
theorem bt0 {b : Nat} (hb : b < 1) (h : b + bRest ty (!isSpT tx.data.toList) 0 = bitsT ty (!isSpT tx.data.toList)) : PJ ⟨111, [], fun _ => False, w⟩ ((sndN 2 (Tryz.f42.body.getD .skip)).wp Tryz.prog (bodyPost Tryz.prog Tryz.f42 (fun e w' => e = .returned (.int .u16 (bitsT ty (!isSpT tx.data.toList) : Nat)) ∧ Below w.heap.size w w'))) [(1, .pointer (some ⟨g, 0, none⟩)), (3, .int .u16 (b : Nat))] [(g, [.int .i64 ty, .int .i64 pos, .string tx, .bool fl, .int .u16 is], .c 51)] := by
  have e : bRest ty (!isSpT tx.data.toList) 0 = (if (decide (ty = 18 ∨ ty = 17)) = true then 2 ^ 0 else 0) + bRest ty (!isSpT tx.data.toList) 1 := rfl
  rw [show sndN 2 (Tryz.f42.body.getD .skip) = Code.seq (fstC (sndN 2 (Tryz.f42.body.getD .skip))) (sndN 3 (Tryz.f42.body.getD .skip)) by kernel_rfl]
  conv => arg 2; arg 2; arg 1; whnf
  repeat' ((fail_if_success (show PJ _ (Code.wp _ (sndN _ _) _) _ _)); first | first | refine cseq ?_ | refine rtext ?_ | refine ctrue rfl ?_ | refine cfalse rfl ?_ | refine cskip ?_ | refine jnil ?_ | (first | refine js rfl rfl ?_ | refine jmv rfl rfl rfl ?_ | (show Jo _ (.fieldAddr _ _ _); refine jy (yfield rfl fb42_0 rfl) rfl rfl ?_) | (show Jo _ (.load _ _); refine jy (yload (i := 0) rfl rfl rfl one3) rfl rfl ?_) | refine jas_ rfl rfl rfl ?_ | (show Jo _ (.binOp _ _ _ _ _); first | (show Jo _ (.binOp .or _ _ _ _); refine jy (yor (j := ((1 : Nat) : Int)) (c := ((b + 1 : Nat) : Int)) rfl rfl (or_pw 0 rfl hb (by decide))) rfl rfl ?_) | refine jeql rfl rfl rfl rfl (fun hq => ?_) (fun hq => ?_)) | (show Jo _ (.pick _ _ _); first | refine jy (ypick1 rfl rfl) rfl rfl ?_ | refine jy (ypick0 rfl rfl) rfl rfl ?_)))
  all_goals first
    | exact fin (bt1 hs ha (b := b + 1) (by omega) (by rw [e, if_pos (show (decide (ty = 18 ∨ ty = 17)) = true from decide_eq_true (by omega))] at h; omega)) ⟨rfl, rfl, trivial⟩ rfl
    | exact fin (bt1 hs ha (b := b) (by omega) (by rw [e, if_neg (show ¬ (decide (ty = 18 ∨ ty = 17)) = true by rw [show (decide (ty = 18 ∨ ty = 17)) = false from decide_eq_false (by omega)]; exact Bool.noConfusion)] at h; omega)) ⟨rfl, rfl, trivial⟩ rfl
theorem bits_calls (w : World) : Calls Tryz.prog 42 #[.agg [.int .i64 ty, .int .i64 pos, .string tx, .bool fl, .int .u16 is].toArray] w fun e w' => e = .returned (.int .u16 (bitsT ty (!isSpT tx.data.toList) : Nat)) ∧ Below w.heap.size w w' := by
  have hb : Tryz.f42.body = some (Code.seq (fstC (Tryz.f42.body.getD .skip)) (Code.seq (fstC (sndN 1 (Tryz.f42.body.getD .skip))) (sndN 2 (Tryz.f42.body.getD .skip)))) := by kernel_rfl
  generalize hv : [Value.int .i64 ty, .int .i64 pos, .string tx, .bool fl, .int .u16 is] = cc
  refine enter (fun _ => False) 111 [] Tryz.func42 hb rfl rfl (vs := [.agg cc.toArray]) (Has.nil _) ?_
  subst hv
  conv => arg 2; arg 2; arg 1; whnf
  conv => arg 2; arg 2; arg 2; arg 1; whnf
  repeat' ((fail_if_success (show PJ _ (Code.wp _ (sndN _ _) _) _ _)); first | first | refine cseq ?_ | refine rtext ?_ | refine jnil ?_ | (first | refine jas_ rfl rfl rfl ?_ | (show Jo _ (.box 51 _); refine jbox (c := [.int .i64 ty, .int .i64 pos, .string tx, .bool fl, .int .u16 is]) rfl rfl rfl (fun g h1 => ?_))))
  exact fin (bt0 hs ha (b := 0) (by decide) (by rw [Nat.zero_add]; exact bsum_bits _ _)) ⟨rfl, rfl, trivial⟩ rfl
end
theorem bo39 : bodyB Tryz.prog 35 = true := by kernel_rfl
theorem bo24 : bodyB Tryz.prog 18 = true := by kernel_rfl
theorem si24 : (Tryz.prog.info? 25).map (·.size) = some 1 := by kernel_rfl
theorem bu42' (a b : Int) (s : ByteArray) : Tryz.prog.built 51 [(0, .int .i64 a), (1, .int .i64 b), (2, .string s)] = some [.int .i64 a, .int .i64 b, .string s, .bool false, .int .u16 0].toArray := by kernel_rfl
def bkM (g : Nat) (s : ByteArray) (r : Row) (l : List Ti) (E : Mem) : Mem := bkB g s (r.val l.length) :: (r.mem (l.flatMap tiC) 51 ++ E)
structure BkOk (X : Cx) (r : Row) (l : List Ti) : Prop where
  ok : r.ok 0 5 l.length (l.flatMap tiC)
  may : r.may X
theorem BkOk.sub {X : Cx} {r : Row} {l : List Ti} (h : BkOk X r l) (n : Nat) {m : Mem} {w : World} (hw : Cl X m w) : BkOk (X.sub n w) r l := ⟨h.ok, Row.may_sub h.may⟩
theorem BkOk.up {X : Cx} {r : Row} {l : List Ti} {n : Nat} {m : Mem} {w : World} (hw : Cl X m w) (h : BkOk (X.sub n w) r l) : BkOk X r l := ⟨h.ok, Row.may_up hw h.may⟩
def asC (ty p : Nat) (t : ByteArray) : List Value := [.int .i64 ty, .int .i64 (p : Nat), .string t, .bool false, .int .u16 (bitsT ty (!isSpT t.data.toList) : Nat)]
theorem asC_eq (ty p : Nat) (t : ByteArray) : tiC (tiOf ty p t.data.toList) = asC ty p t := rfl
theorem asC_one (ty p : Nat) (t : ByteArray) : ∀ u ∈ asC ty p t, u.oneCell' = true := by
  intro u hu
  simp only [asC, List.mem_cons, List.not_mem_nil, or_false] at hu
  rcases hu with rfl | rfl | rfl | rfl | rfl <;> rfl
set_option maxHeartbeats 1000000 in
theorem as_calls {X : Cx} {g : Nat} (hg : X.may g) {s : ByteArray} {r : Row} {l : List Ti} {E : Mem} (hr : BkOk X r l) (hn : l.length < 1000000000) {ty : Nat} (hty : ty ≤ 18) {u t : ByteArray} (hts : t.size ≤ 4611686018427387904) (ha : ∀ c ∈ t.data.toList, c.toNat < 128) (hsz : s.size + u.size ≤ 9223372036854775807) :
    ∀ w, Cl X (bkM g s r l E) w → Calls Tryz.prog 35 #[.pointer (some ⟨g, 0, none⟩), .int .i64 (ty : Nat), .string u, .string t] w fun e w' => ∃ r' : Row, e = .returned (.tuple #[]) ∧ Cl X (bkM g (s ++ u) r' (l ++ [tiOf ty s.size t.data.toList]) E) w' ∧ BkOk X r' (l ++ [tiOf ty s.size t.data.toList]) := by
  intro w hw
  unfold bkM at hw
  refine enterC 38 hw Tryz.func35 rfl rfl (vs := [.pointer (some ⟨g, 0, none⟩), .int .i64 (ty : Nat), .string u, .string t]) rfl ?_
  replace hg := Cx.may_sub (n := 38) (w := w) hg
  replace hr := hr.sub 38 hw
  have e1 : (l ++ [tiOf ty s.size t.data.toList]).length = l.length + 1 := by simp
  have e2 : (l ++ [tiOf ty s.size t.data.toList]).flatMap tiC = l.flatMap tiC ++ asC ty s.size t := by rw [List.flatMap_append, ← asC_eq]; simp
  conv => arg 2; arg 2; whnf
  repeat' (first | first | (show PJ _ (Code.wp _ _ _) _ _; first | refine cseq ?_ | refine rtext ?_ | (show PJ _ (Code.wp _ (Code.region 2 _ true) _) _ _; refine ranyT 8 [(g8, asC ty s.size t, .c 51), bkB g s (r.val l.length)] mixed ?_)) | refine jnil ?_ | (first | (show Jo (some 13) (.load _ _); refine jy (yload (i := 0) rfl rfl rfl one9') rfl rfl ?_) | (show Jo (some 33) (.load _ _); refine jy (yload (i := 2) rfl rfl rfl one9') rfl rfl ?_) | refine jmv rfl rfl rfl ?_ | refine jy (ynil rfl) rfl rfl ?_ | (show Jo _ (.fieldAddr _ _ _); refine jy (yfield rfl (by first | exact fb29_0 | exact fb42_4) rfl) rfl rfl ?_) | (show Jo _ (.load _ _); refine jy (yloads (i := 0) rfl rfl ag42) rfl rfl ?_) | (show Jo _ (.binOp _ _ _ _ _); ((show Jo _ (.binOp .add _ _ _ _); refine jy (ysadd rfl rfl hsz rfl) rfl rfl ?_))) | (show Jo _ (.store _ _ _); first | refine jstores (i := 0) rfl rfl rfl rfl rfl si42 (.inr hT8) ?_ | refine jstore (i := 0) rfl rfl rfl rfl rfl si40 (.inr hT8) ?_ | refine jstore (i := 2) rfl rfl rfl rfl (rowv_one _ _) si24 hg ?_ | refine jstore (i := 2) rfl rfl rfl rfl rfl si9' hg ?_) | (show Jo _ (.call _); first | (show Jo _ (.call ⟨.builtin .len, _, _⟩); refine jy (ylens rfl Lw.und9) rfl rfl ?_) | (show Jo _ (.call ⟨.value (.func 42), _, _⟩); refine jcallq bo35 rfl rfl rfl (quietC fun w _ => bits_calls (by omega) ha w) ?_) | (show Jo _ (.call ⟨.builtin .append, _, _⟩); refine jappendP (k := 1) (r := r) (B := 0) (n := l.length) (xs := l.flatMap tiC) (news := asC ty s.size t) ([_, _, _] ++ E) (fun r' => [_, _, _] ++ (r'.mem (l.flatMap tiC ++ asC ty s.size t) 51 ++ E)) (perm_row [_, _, _] (r.mem (l.flatMap tiC) 51) E) (fun r' => (perm_row [_, _, _] _ _).symm) rfl rfl (src_blk (i := 0) 0 rfl (add_zero _) (fun j u hj => by rw [show 0 + j = j from Nat.zero_add j]; exact hj)) rfl (asC_one _ _ _) hr.ok (Nat.zero_le _) hr.may gr24 (by omega) (by simp only [maxLen]; omega) (by omega) rfl (fun r' hr' hmr' => ?_))) | (show Jo _ (.build _ _); refine jy (ybuild rfl (bu42' ty (s.size : Nat) t)) rfl rfl ?_) | (show Jo _ (.alloc _); refine jalloc ze42 rfl (fun g8 hT8 => ?_)) | (show Jo _ (.buildSlice _ 1 _); refine jlit1 (c := asC ty s.size t) rfl rfl rfl gr24 rfl rfl rfl (fun gl hTl => ?_))) | first | (show JT _ _ _ _ _ _ [] _ _; refine jtnil ?_) | (first | (show JTo _ (.move _); refine jty (ymove rfl) rfl rfl ?_) | (show JTo _ (.nilCheck _); refine jty (ynil rfl) rfl rfl ?_) | (show JTo _ (.fieldAddr _ _ _); refine jty (yfield rfl fb29_1 rfl) rfl rfl ?_) | (show JTo _ (.load _ _); first | refine jty (yload (i := 1) rfl rfl rfl one9') rfl rfl ?_ | refine jty (yloads (i := 0) rfl rfl ag42) rfl rfl ?_)) | first | (show PJ _ (WKeep _ _ _) _ _; refine jas (fun _ h => h.less (by repeat (first | exact List.nil_sublist _ | refine List.Sublist.cons_cons _ ?_ | refine List.Sublist.cons _ ?_))) ?_) | (show PJ _ (WIf _ _ _) _ _; refine jaw ?_) | (show PJ _ (WAnyT _ _ _ _ _ _ _ _) _ _; first | refine jaqT (n := 8) (g' := 5) (D := []) [0, 1, 2, 3, 4, 5] rfl (fun _ h => h.less (by repeat (first | exact List.nil_sublist _ | refine List.Sublist.cons_cons _ ?_))) (by kernel_rfl) (by kernel_rfl) (by kernel_rfl) (by kernel_rfl) (by kernel_rfl) rfl (fun _ d _ _ _ h => by cases d <;> exact h) rfl ?_ | refine ja1T (n := 8) (g' := 4) (D := [0, 1, 2, 3, 4, 5]) 6 rfl rfl (by kernel_rfl) (by kernel_rfl) rfl ?_ | refine ja1T (n := 8) (g' := 3) (D := [0, 1, 2, 3, 4, 5, 6]) 7 rfl rfl (by kernel_rfl) (by kernel_rfl) rfl ?_ | refine jfullT (D := [0, 1, 2, 3, 4, 5, 6, 7]) (by kernel_rfl) ?_) | (show PJ _ (WAny _ _ _ _ _ _ _) _ _; first | refine jaq (g' := 1) (D := [0, 1, 2, 3, 4, 5, 6, 7]) [8, 9] rfl (fun _ h => h.less (by repeat ((exact List.nil_sublist _)))) (by kernel_rfl) (by kernel_rfl) rfl (fun _ d _ _ _ h => by cases d <;> exact h) rfl ?_ | refine ja1 (g' := 0) (D := [0, 1, 2, 3, 4, 5, 6, 7, 8, 9]) 10 rfl rfl (by kernel_rfl) rfl ?_ | refine jadone rfl (by kernel_rfl) ?_))
  refine end0 rfl rfl (fun w' hw' => ⟨r', rfl, ?_, BkOk.up hw ⟨by rw [e1, e2]; exact hr', hmr'⟩⟩)
  unfold bkM
  rw [e1, e2]
  exact (hw.up hw').less (List.Sublist.cons _ (List.Sublist.cons _ (List.Sublist.refl _)))
end Go.Proofs.YtkehggbmpdacpacGreatDoor.Pg
namespace Go.Proofs.YtkehggbmpdacpacGreatDoor.Lex0
open Go.Proofs.YtkehggbmpdacpacGreatDoor.Dec0 Go.Proofs.YtkehggbmpdacpacGreatDoor.Txt0
def lf (md : Bool) : T := if md then lmd else lno
def b0 : Book := ⟨[], []⟩
def Book.left (b : Book) (md : Bool) : Book := b.put (if md then 10 else 8) (lf md)
def Book.right (b : Book) (md : Bool) : Book := b.put (if md then 11 else 9) (rd md)
def Book.fin (b : Book) : Book := b.put 1 []
section
variable {E : Env} {s : T} {dv : Bool} {b : Book} {c : Ctl}
structure QT (v : T) : Prop where
  asc : asc v
  q : ∀ c ∈ v, c ≠ 92 ∧ c ≠ 10 ∧ c ≠ 34
theorem QT.val {v : T} (h : QT v) : ValT v := ⟨h.asc, fun c hc => ⟨(h.q c hc).1, (h.q c hc).2.1⟩, fun e => by
  cases v with
  | nil => cases e
  | cons a v => cases e; exact (h.q 34 (List.mem_cons_self ..)).2.2 rfl⟩
theorem QT.esc {v : T} (h : QT v) : escT v = v := escT_plain fun c hc => (h.q c hc).2.2
def bb (b : Book) (v : T) : Book := (b.pass [32]).put 15 v
end
section
variable {E : Env} (hE : EA E) (hT : TrA E) (dv md : Bool) {w : T} (hw : NameT w)
include hE hT hw
end
end Go.Proofs.YtkehggbmpdacpacGreatDoor.Lex0
namespace Go.Proofs.YtkehggbmpdacpacGreatDoor.Pg
open Go.Rx hiding bt
open Go.RowKit Go.Proofs.YtkehggbmpdacpacGreatDoor.Dec0 Go.Proofs.YtkehggbmpdacpacGreatDoor.Lex0
@[reducible] def bkS (g : Nat) (B : Book) (r : Row) (E : Mem) : Mem := bkM g (ba B.s) r B.l E
def bsz (B : Book) : Nat := B.s.length + B.l.length
theorem ba_app (a b : T) : ba (a ++ b) = ba a ++ ba b := by
  rw [Txt0.data_inj]
  simp [ba]
theorem bsz_as (B : Book) (ty : Nat) (u t : T) : bsz (B.as_ ty u t) = bsz B + u.length + 1 := by
  show (B.s ++ u).length + (B.l ++ [_]).length = _
  simp only [List.length_append, List.length_cons, List.length_nil, bsz]
  omega
theorem bsz_put (B : Book) (ty : Nat) (u : T) : bsz (B.put ty u) = bsz B + u.length + 1 := bsz_as B ty u u
theorem bsz_b0 : bsz b0 = 0 := rfl
section
variable {X : Cx} {g : Nat} (hg : X.may g) {B : Book} {r : Row} {E : Mem} (hr : BkOk X r B.l)
include hg hr
theorem asB_calls (hn : bsz B ≤ 1000000000 - 1) {ty : Nat} (hty : ty ≤ 18) {u t : ByteArray} (hus : u.size ≤ 1099511627776) (hts : t.size ≤ 1099511627776) (ha : asc t.data.toList) :
    ∀ w, Cl X (bkS g B r E) w → Calls Tryz.prog 35 #[.pointer (some ⟨g, 0, none⟩), .int .i64 (ty : Nat), .string u, .string t] w fun e w' => ∃ r' : Row, e = .returned (.tuple #[]) ∧ Cl X (bkS g (B.as_ ty u.data.toList t.data.toList) r' E) w' ∧ BkOk X r' (B.as_ ty u.data.toList t.data.toList).l := fun w hw => by
  have h := as_calls (E := E) (s := ba B.s) hg hr (by unfold bsz at hn; omega) hty (u := u) (t := t) (by omega) ha (by rw [ba_size]; unfold bsz at hn; omega) w hw
  have e : ba B.s ++ u = ba (B.as_ ty u.data.toList t.data.toList).s := by show _ = ba (B.s ++ u.data.toList); rw [ba_app]; rfl
  rw [e] at h
  exact h
theorem putB_calls (hn : bsz B ≤ 1000000000 - 1) {ty : Nat} (hty : ty ≤ 18) {u : ByteArray} (hus : u.size ≤ 1099511627776) (ha : asc u.data.toList) :
    ∀ w, Cl X (bkS g B r E) w → Calls Tryz.prog 18 #[.pointer (some ⟨g, 0, none⟩), .int .i64 (ty : Nat), .string u] w fun e w' => ∃ r' : Row, e = .returned (.tuple #[]) ∧ Cl X (bkS g (B.put ty u.data.toList) r' E) w' ∧ BkOk X r' (B.put ty u.data.toList).l := by
  intro w hw
  refine enterC 11 hw Tryz.func18 rfl rfl (vs := [.pointer (some ⟨g, 0, none⟩), .int .i64 (ty : Nat), .string u]) rfl ?_
  replace hg := Cx.may_sub (n := 11) (w := w) hg
  replace hr := hr.sub 11 hw
  conv => arg 2; arg 2; whnf
  repeat' (first | (show PJ _ (Code.wp _ _ _) _ _; (refine rtext ?_)) | refine jnil ?_ | (first | refine jmv rfl rfl rfl ?_ | (show Jo _ (.call _); ((show Jo _ (.call ⟨.value (.func 35), _, _⟩); refine jcall (ι := Row) (v := fun _ => .tuple #[]) (m' := fun r' => bkS g (B.as_ ty u.data.toList u.data.toList) r' E) (fun r' => BkOk _ r' (B.as_ ty u.data.toList u.data.toList).l) bo39 rfl rfl rfl (asB_calls hg hr hn hty hus hus ha) (fun r' hr' => ?_))))))
  exact end0 rfl rfl (fun w' hw' => ⟨r', rfl, hw.up hw', BkOk.up hw hr'⟩)
end
section
variable {X : Cx} {g : Nat} (hg : X.may g) {B : Book} {r : Row} {E : Mem} (hr : BkOk X r B.l) (hn : bsz B ≤ 1000000000 - 10)
include hg hr hn
end
theorem bo19 : bodyB Tryz.prog 20 = true := by kernel_rfl
theorem cl_row {X : Cx} {m : Mem} {w w' : World} {r : Row} {xs : List Value} {e : TypeId} {n sz : Nat} (hw : Cl X m w) (hb : Below w.heap.size w w') (h : Has (r.mem xs e) w') (hr : r.ok w.heap.size sz n xs) : Cl X (r.mem xs e ++ m) w' := by
  have h1 := hw.below hb
  cases r with
  | nil => exact h1
  | «at» g cap rr =>
    refine ⟨⟨?_, fun x hx => ?_⟩, h1.2⟩
    · show ((g :: m.map (·.1)) : List Nat).Nodup
      rw [List.nodup_cons]
      refine ⟨fun hg => ?_, h1.1.ne⟩
      obtain ⟨x, hx, e⟩ := List.mem_map.1 hg
      have h2 := hw.1.lt hx
      rw [e] at h2
      exact absurd h2 (Nat.not_lt.2 hr.1)
    · rcases List.mem_cons.1 hx with rfl | hx
      · exact h.blk _ (List.mem_singleton.2 rfl)
      · exact h1.1.blk x hx
theorem tiC_at : ∀ {l : List Ti} {j : Nat} {t : Ti} {i : Nat} {u : Value}, l[j]? = some t → (tiC t)[i]? = some u → (l.flatMap tiC)[5 * j + i]? = some u := by
  intro l
  induction l with
  | nil => intro j t i u h; simp at h
  | cons a l ih =>
    intro j t i u h hu
    have hi : i < 5 := by
      have := (List.getElem?_eq_some_iff.1 hu).1
      exact this
    rw [List.flatMap_cons]
    cases j with
    | zero =>
      obtain rfl : a = t := by simpa using h
      rw [List.getElem?_append_left (by show 5 * 0 + i < 5; omega), show 5 * 0 + i = i by omega]
      exact hu
    | succ j =>
      rw [List.getElem?_append_right (by show 5 ≤ 5 * (j + 1) + i; omega)]
      have := ih (j := j) (by simpa using h) hu
      rw [show 5 * (j + 1) + i - (tiC a).length = 5 * j + i by show 5 * (j + 1) + i - 5 = _; omega]
      exact this
theorem tiCs_len : ∀ (l : List Ti), (l.flatMap tiC).length = 5 * l.length := by
  intro l
  induction l with
  | nil => rfl
  | cons a l ih => rw [List.flatMap_cons, List.length_append, ih, List.length_cons]; show 5 + _ = _; omega
theorem tis_of {w : World} {r : Row} {l : List Ti} {B : Nat} (h : Has (r.mem (l.flatMap tiC) 51) w) (hr : r.ok B 5 l.length (l.flatMap tiC)) : TisAt w (r.val l.length) l := by
  cases r with
  | nil =>
    obtain ⟨h0, _⟩ := hr
    have : l = [] := List.length_eq_zero_iff.1 h0
    subst this
    exact ⟨none, 0, rfl, fun j t hj => by simp at hj⟩
  | «at» g cap rr =>
    refine ⟨some ⟨g, 0, none⟩, cap, rfl, fun j t hj => ⟨_, rfl, fun i u hu => ?_⟩⟩
    have h1 : w.heap[g]? = some (.cells (l.flatMap tiC ++ rr).toArray 51 (0, 0)) := h.blk _ (List.mem_singleton.2 rfl)
    rw [add_lit]
    refine cell_row h1 ?_
    rw [List.getElem?_append_left (by have := (List.getElem?_eq_some_iff.1 hj).1; have := (List.getElem?_eq_some_iff.1 hu).1; rw [tiCs_len]; have h5 : (tiC t).length = 5 := rfl; omega)]
    exact tiC_at hj hu
theorem row_ok0 {r : Row} {B sz n : Nat} {xs : List Value} (h : r.ok B sz n xs) : r.ok 0 sz n xs := by
  cases r with
  | nil => exact h
  | «at» g cap rr => exact ⟨Nat.zero_le _, h.2⟩
theorem parseB {X : Cx} (hW : ∃ W, Bs W X ∧ Tab W) {m : Mem} (s : T) (fr dv : Bool) (hs : s.length ≤ 4294967296) : ∀ w, Cl X m w → Calls Tryz.prog 16 #[.string (ba s), .bool fr, .bool dv] w fun e w' => ∃ r : Row, e = .returned (r.val (told s fr dv).length) ∧ Cl X (r.mem ((told s fr dv).flatMap tiC) 51 ++ m) w' ∧ r.ok 0 5 (told s fr dv).length ((told s fr dv).flatMap tiC) := fun w hw => by
  obtain ⟨W, h1, h2⟩ := hW
  refine (parse16_calls (h2.below (h1.w hw)) (ba s) fr dv hs).mono fun e w' ⟨r, e1, e2, e3, e4⟩ => ⟨r, e1, cl_row hw e4 e2 e3, row_ok0 e3⟩
theorem sameB {w : World} {r1 r : Row} {l : List Ti} {B : Book} {g : Nat} {E : Mem} (h : Has (r1.mem (l.flatMap tiC) 51 ++ bkS g B r E) w) (h1 : r1.ok 0 5 l.length (l.flatMap tiC)) (h2 : r.ok 0 5 B.l.length (B.l.flatMap tiC)) (heq : l = B.l) (hl : B.l.length ≤ 1000000000000) :
    Calls Tryz.prog 36 #[r1.val l.length, r.val B.l.length] w fun e w' => e = .returned (.bool true) ∧ Below w.heap.size w w' := by
  subst heq
  refine sameItems_calls (tis_of (h.sub (List.sublist_append_left _ _)) h1) (tis_of (h.sub ?_) h2) hl
  exact (List.sublist_append_left _ E).trans ((List.sublist_cons_self _ _).trans (List.sublist_append_right _ _))
set_option maxHeartbeats 1000000 in
theorem tells_calls {X : Cx} (hW : ∃ W, Bs W X ∧ Tab W) {g : Nat} {B : Book} {r : Row} {E : Mem} (hr : BkOk X r B.l) (fr dv : Bool) (hn : bsz B ≤ 1000000000) (heq : told B.s fr dv = B.l) :
    ∀ w, Cl X (bkS g B r E) w → Calls Tryz.prog 20 #[.pointer (some ⟨g, 0, none⟩), .bool fr, .bool dv] w fun e w' => e = .returned (.bool true) ∧ Cl X (bkS g B r E) w' := by
  intro w hw
  refine enterC 27 hw Tryz.func20 rfl rfl (vs := [.pointer (some ⟨g, 0, none⟩), .bool fr, .bool dv]) rfl ?_
  replace hr := hr.sub 27 hw
  replace hW : ∃ W, Bs W (X.sub 27 w) ∧ Tab W := by obtain ⟨W, h1, h2⟩ := hW; exact ⟨W, h1.sub hw 27, h2⟩
  unfold bsz at hn
  have hln : B.l.length ≤ 1000000000000 := by omega
  conv => arg 2; arg 2; whnf
  have hsub : ∀ {X' : Cx} {m' : Mem} w', Cl X' (bkB g (ba B.s) (r.val B.l.length) :: m') w' → Cl X' [bkB g (ba B.s) (r.val B.l.length)] w' := fun w' h => h.less (List.Sublist.cons_cons _ (List.nil_sublist _))
  cases hbg : decide (((ba B.s).size : Int) > 65536)
  all_goals
    repeat' (first | first | (show PJ _ (Code.wp _ _ _) _ _; first | refine cseq ?_ | refine rtext ?_ | refine cret ?_ | (show PJ _ (Code.wp _ (Code.region 1 _ true) _) _ _; refine rany [bkB g (ba B.s) (r.val B.l.length)] mixed ?_)) | refine jnil ?_ | (first | refine js rfl rfl ?_ | refine jas_ rfl rfl rfl ?_ | (show Jo _ (.call _); first | (show Jo _ (.call ⟨.value (.func 16), _, _⟩); refine jcall (ι := Row) (v := fun r' => r'.val (told B.s fr dv).length) (m' := fun r' => r'.mem ((told B.s fr dv).flatMap tiC) 51 ++ bkS g B r E) (fun r' => r'.ok 0 5 (told B.s fr dv).length ((told B.s fr dv).flatMap tiC)) bo16 rfl rfl rfl (parseB hW B.s fr dv (by omega)) (fun r1 h1 => ?_)) | (show Jo _ (.call ⟨.value (.func 36), _, _⟩); refine jcallq bo30 rfl rfl rfl (quietC fun w' hw' => sameB hw'.1 h1 hr.ok heq hln) ?_))) | first | (show JT _ _ _ _ _ _ [] _ _; refine jtnil ?_) | (first | refine jts rfl rfl ?_ | (show JTo _ (.move _); refine jty (ymove rfl) rfl rfl ?_) | (show JTo _ (.nilCheck _); refine jty (ynil rfl) rfl rfl ?_) | (show JTo _ (.fieldAddr _ _ _); refine jty (yfield rfl (by first | exact fb29_0 | exact fb29_1) rfl) rfl rfl ?_) | (show JTo _ (.load _ _); refine jty (yload (i := 0) rfl rfl rfl one9') rfl rfl ?_) | (show JTo _ (.assign _); refine jty (yassign rfl) rfl rfl ?_) | (show JTo _ (.binOp _ _ _ _ _); ((show JTo _ (.binOp .gtr _ _ _ _); refine jty (ygtr rfl rfl hbg) rfl rfl ?_))) | (show JTo _ (.pick _ _ _); first | refine jty (ypick1 rfl rfl) rfl rfl ?_ | refine jty (ypick0 rfl rfl) rfl rfl ?_) | (show JTo _ (.call _); ((show JTo _ (.call ⟨.builtin .len, _, _⟩); refine jty (ylens rfl Lw.und9) rfl rfl ?_)))) | first | (show PJ _ (WKeep _ _ _) _ _; refine jas (fun _ h => by first | exact hsub _ h | exact h.less ((List.Sublist.cons_cons _ (List.nil_sublist _)).trans (List.sublist_append_right _ _))) ?_) | (show PJ _ (WIf _ _ _) _ _; refine jaw ?_) | (show PJ _ (WAny _ _ _ _ _ _ _) _ _; first | refine jaq (g' := 4) (D := []) [0, 1, 2, 3, 4, 5, 6, 7, 8, 9, 10, 11, 12, 14, 15, 16, 17] rfl (fun _ h => by (exact hsub _ h)) (by kernel_rfl) (by kernel_rfl) rfl (fun _ d _ _ _ h => by cases d <;> exact h) rfl ?_ | refine ja1 (g' := 3) (D := [0, 1, 2, 3, 4, 5, 6, 7, 8, 9, 10, 11, 12, 14, 15, 16, 17]) 13 rfl rfl (by kernel_rfl) rfl ?_ | refine ja1 (g' := 2) (D := [0, 1, 2, 3, 4, 5, 6, 7, 8, 9, 10, 11, 12, 14, 15, 16, 17, 13]) 18 rfl rfl (by kernel_rfl) rfl ?_ | refine jaq (g' := 0) (D := [0, 1, 2, 3, 4, 5, 6, 7, 8, 9, 10, 11, 12, 14, 15, 16, 17, 13, 18]) [19, 20] rfl (fun _ h => by first | exact hsub _ h | exact h.less ((List.Sublist.cons_cons _ (List.nil_sublist _)).trans (List.sublist_append_right _ _))) (by kernel_rfl) (by kernel_rfl) rfl (fun _ d _ _ _ h => by cases d <;> exact h) rfl ?_ | refine jadone rfl (by kernel_rfl) ?_))
    all_goals first | exact ret1 rfl rfl rfl (fun w' hw' => ⟨rfl, hw.up hw'⟩) | exact ret1 rfl rfl rfl (fun w' hw' => ⟨rfl, (hw.up hw').less (List.sublist_append_right _ _)⟩)
end Go.Proofs.YtkehggbmpdacpacGreatDoor.Pg
namespace Go.Proofs.YtkehggbmpdacpacGreatDoor.Pg
open Go.Rx hiding bt
open Go.Lib
open Go.RowKit
theorem tabIs_of_reads {P : Program} {W : World} {name : String} {k : IntKind} {zs : List Int} {g : Nat} {t e : TypeId} {n : Nat}
    (hg : P.globalNamed name = some g) (hty : (P.globals[g]?).map (·.type) = some t) (ht : P.underlying t = some (.array n e)) (he : P.underlying e = some (.int k)) (hce : P.cellsOf e = 1) (hct : P.cellsOf t = n)
    (h : VarReads P W name (tabData k zs)) : TabIs P W name k zs := by
  obtain ⟨g', t', cs, fuel, p, hg', ht', hvar, hd⟩ := h
  obtain rfl := Option.some.inj (hg.symm.trans hg')
  obtain rfl := Option.some.inj (hty.symm.trans ht')
  unfold TabIs
  rw [hvar, ← cells_of_tab ht he hce hct hd]
def renU : Go.Shelf.Ren := ⟨fun n => n, fun | 119 => 124 | 138 => 142 | 139 => 143 | n => n, fun | 3 => 2 | 4 => 3 | n => n⟩
theorem tab_of_laid {W : World} (hL : laidMetH Tryz.prog [("unicode/utf8.acceptRanges", Rows.laid_unicode_utf8_acceptRanges), ("unicode.White_Space", Rows.laid_unicode_White_Space), ("unicode.properties", Rows.laid_unicode_properties), ("bytes.ErrTooLarge", Rows.laid_bytes_ErrTooLarge), ("bytes.asciiSpace", Rows.laid_bytes_asciiSpace), ("unicode.Digit", Rows.laid_unicode_Digit), ("unicode.Letter", Rows.laid_unicode_Letter), ("unicode/utf8.first", Rows.laid_unicode_utf8_first)] W) : Tab W := by
  rw [MakeChecks.laidMetH_plain _ _ _ (by kernel_rfl)] at hL
  have h0 := Lib.laidMet.reads hL (n := "unicode/utf8.acceptRanges") (d := Rows.laid_unicode_utf8_acceptRanges) (.head _)
  have h1 := Lib.laidMet.reads hL (n := "unicode.White_Space") (d := Rows.laid_unicode_White_Space) (.tail _ (.head _))
  have h2 := Lib.laidMet.reads hL (n := "unicode.properties") (d := Rows.laid_unicode_properties) (.tail _ (.tail _ (.head _)))
  have h4 := Lib.laidMet.reads hL (n := "bytes.asciiSpace") (d := Rows.laid_bytes_asciiSpace) (.tail _ (.tail _ (.tail _ (.tail _ (.head _)))))
  have h5 := Lib.laidMet.reads hL (n := "unicode.Digit") (d := Rows.laid_unicode_Digit) (.tail _ (.tail _ (.tail _ (.tail _ (.tail _ (.head _))))))
  have h6 := Lib.laidMet.reads hL (n := "unicode.Letter") (d := Rows.laid_unicode_Letter) (.tail _ (.tail _ (.tail _ (.tail _ (.tail _ (.tail _ (.head _)))))))
  have h7 := Lib.laidMet.reads hL (n := "unicode/utf8.first") (d := Rows.laid_unicode_utf8_first) (.tail _ (.tail _ (.tail _ (.tail _ (.tail _ (.tail _ (.tail _ (.head _))))))))
  have e0 : (Rows.laid_unicode_utf8_acceptRanges : DataW Unit) = acceptData := by kernel_rfl
  have e1 : (Rows.laid_unicode_White_Space : DataW Unit) = whiteData := by kernel_rfl
  have e2 : (Rows.laid_unicode_properties : DataW Unit) = tabData .u8 propertiesTab := by kernel_rfl
  have e4 : (Rows.laid_bytes_asciiSpace : DataW Unit) = tabData .u8 asciiSpaceTab := by kernel_rfl
  have e5 : Rows.laid_unicode_Digit = rtabData digitT := Pinned.digit_eq
  have e6 : Rows.laid_unicode_Letter = rtabData letterT := Pinned.letter_eq
  have e7 : Rows.laid_unicode_utf8_first = firstData := Pinned.utf8First_eq
  rw [e0] at h0
  rw [e1] at h1
  rw [e2] at h2
  rw [e4] at h4
  rw [e5] at h5
  rw [e6] at h6
  rw [e7] at h7
  have L : Lays.n261 Tryz.prog Tryz.lays198_ren := { Tryz.lays198 with }
  have X : RExtra Tryz.prog Tryz.lays198_ren := ⟨by kernel_rfl, by kernel_rfl, by kernel_rfl, by kernel_rfl, by kernel_rfl, by kernel_rfl, by kernel_rfl, by kernel_rfl⟩
  have U : U8Types Tryz.prog renU := ⟨by kernel_rfl, by kernel_rfl, by kernel_rfl, by kernel_rfl⟩
  have UX : U8Extra Tryz.prog renU := ⟨by kernel_rfl, by kernel_rfl, by kernel_rfl, by kernel_rfl, by kernel_rfl, by kernel_rfl, by kernel_rfl⟩
  exact ⟨utf8Tabs_of_readsT (ρ := renU) U UX h7 h0,
    tabIs_of_reads (g := 5) (t := 124) (e := 5) (n := 256) (by kernel_rfl) (by kernel_rfl) (by kernel_rfl) (by kernel_rfl) (by kernel_rfl) (by kernel_rfl) h2,
    rvar_of_reads L X (by kernel_rfl) (by kernel_rfl) h6, rvar_of_reads L X (by kernel_rfl) (by kernel_rfl) h5,
    whiteTab_of_reads Tryz.lays199 ⟨by kernel_rfl, by kernel_rfl, by kernel_rfl, by kernel_rfl, by kernel_rfl, by kernel_rfl, by kernel_rfl, by kernel_rfl⟩ h1,
    tabIs_of_reads (g := 0) (t := 124) (e := 5) (n := 256) (by kernel_rfl) (by kernel_rfl) (by kernel_rfl) (by kernel_rfl) (by kernel_rfl) (by kernel_rfl) h4⟩
end Go.Proofs.YtkehggbmpdacpacGreatDoor.Pg
namespace Go.Proofs.YtkehggbmpdacpacGreatDoor.Lw
open Go.Rx
open Go.RowKit Go.Proofs.YtkehggbmpdacpacGreatDoor.Dec0 Go.Proofs.YtkehggbmpdacpacGreatDoor.Txt0
theorem boQt : bodyB Tryz.prog 23 = true := by kernel_rfl
theorem has_one {c : UInt8} : ∀ {l : T}, hasT [c] l = false → ∀ d ∈ l, d ≠ c := by
  intro l
  induction l with
  | nil => intro _ d hd; cases hd
  | cons a l ih =>
    intro h d hd
    rw [hasT_drop _ _ (by simp), List.drop_one, List.tail_cons, Bool.or_eq_false_iff] at h
    rcases List.mem_cons.1 hd with rfl | hd
    · intro e
      rw [e] at h
      simp at h
    · exact ih h.2 d hd
theorem asc_all {l : T} (h : l.all isAsc = true) : (∀ c ∈ l, c.toNat < 128) ∧ ∀ c ∈ l, c.toNat ≠ 13 := by
  have : ∀ c ∈ l, c.toNat < 128 ∧ c.toNat ≠ 13 := fun c hc => by
    have := List.all_eq_true.1 h c hc
    unfold isAsc at this
    simp at this
    omega
  exact ⟨fun c hc => (this c hc).1, fun c hc => (this c hc).2⟩
def QuoteF (s : ByteArray) : Prop := Lex0.QT s.data.toList ∧ s.size < 1000 ∧ ∀ c ∈ s.data.toList, c.toNat ≠ 13
theorem quotable_calls (s : ByteArray) (w : World) (hs : s.size ≤ 4611686018427387904) : Calls Tryz.prog 23 #[.string s] w fun e w' => ∃ b, e = .returned (.bool b) ∧ Below w.heap.size w w' ∧ (b = true → QuoteF s) := by
  refine enter (fun _ => False) 25 [] Tryz.func23 rfl rfl rfl (vs := [.string s]) (Has.nil _) ?_
  conv => arg 2; arg 2; whnf
  have post : ∀ (f : Fr) (m : Mem) (b : Bool), (b = true → QuoteF s) → Rx.look f 2 = some (.bool b) → PJ ⟨25, [], fun _ => False, w⟩ (bodyPost Tryz.prog Tryz.f23 (fun e w' => ∃ b, e = .returned (.bool b) ∧ Below w.heap.size w w' ∧ (b = true → QuoteF s)) .ret) f m := fun f m b hb hf =>
    ret1 rfl rfl hf (fun w' hw' => ⟨b, rfl, hw'.2.below (fun k _ h => h) (Nat.le_refl _), hb⟩)
  repeat' (first | refine cseq ?_ | refine rtext ?_ | refine cret ?_ | refine jnil ?_ | (first | refine js rfl rfl ?_ | refine jmv rfl rfl rfl ?_ | refine jas_ rfl rfl rfl ?_ | (show Jo _ (.binOp _ _ _ _ _); refine jlss rfl rfl rfl rfl (fun hq => ?_) (fun hq => ?_)) | (show Jo _ (.pick _ _ _); first | refine jy (ypick1 rfl rfl) rfl rfl ?_ | refine jy (ypick0 rfl rfl) rfl rfl ?_) | refine jy (ynot rfl rfl) rfl rfl ?_ | (show Jo _ (.call _); first | (show Jo _ (.call ⟨.builtin .len, _, _⟩); refine jy (ylens rfl und9) rfl rfl ?_) | (show Jo _ (.call ⟨.value (.func 33), _, _⟩); refine jcallq boAsc rfl rfl rfl (ascii_in (by omega)) ?_; refine jcases (fun hasc => ?_) (fun hasc => ?_)) | (show Jo (some 7) (.call ⟨.value (.func 14), _, _⟩); refine jcallq boHas rfl rfl rfl (has_in (by omega) (by decide)) ?_; refine jcases (fun h1 => ?_) (fun h1 => ?_)) | (show Jo (some 12) (.call ⟨.value (.func 14), _, _⟩); refine jcallq boHas rfl rfl rfl (has_in (by omega) (by decide)) ?_; refine jcases (fun h2 => ?_) (fun h2 => ?_)) | (show Jo (some 17) (.call ⟨.value (.func 14), _, _⟩); refine jcallq boHas rfl rfl rfl (has_in (by omega) (by decide)) ?_; refine jcases (fun h3 => ?_) (fun h3 => ?_)))))
  all_goals first
    | exact post _ _ false (fun h => by cases h) rfl
    | exact post _ _ true (fun _ => ⟨⟨(asc_all hasc).1, fun c hc => ⟨has_one h2 c hc, has_one h3 c hc, has_one h1 c hc⟩⟩, by omega, (asc_all hasc).2⟩) rfl
theorem quotable_in {X : Cx} {m : Mem} {s : ByteArray} (hs : s.size ≤ 4611686018427387904) : ∀ w, Cl X m w → Calls Tryz.prog 23 #[.string s] w fun e w' => ∃ b, e = .returned (.bool b) ∧ Cl X m w' ∧ (b = true → QuoteF s) := fun w hw =>
  (quotable_calls s w hs).mono fun e w' ⟨b, h1, h2, h3⟩ => ⟨b, h1, hw.below h2, h3⟩
end Go.Proofs.YtkehggbmpdacpacGreatDoor.Lw
namespace Go.Proofs.YtkehggbmpdacpacGreatDoor.Pg
open Go.Rx hiding bt
open Go.RowKit Go.Proofs.YtkehggbmpdacpacGreatDoor.Dec0 Go.Proofs.YtkehggbmpdacpacGreatDoor.Lex0
theorem bu29 : Tryz.prog.built 31 [] = some [.string ⟨#[]⟩, .slice none 0 0].toArray := by kernel_rfl
theorem ba_list (x : T) : (ba x).data.toList = x := rfl
theorem bz1 (a : UInt8) : (⟨#[a]⟩ : ByteArray).size = 1 := rfl
theorem bz2 (a b : UInt8) : (⟨#[a, b]⟩ : ByteArray).size = 2 := rfl
@[reducible] def txs (l : List ByteArray) : List T := l.map fun x => x.data.toList
theorem txs_at {l : List ByteArray} {j : Nat} {x : ByteArray} (h : l[j]? = some x) : (txs l)[j]? = some x.data.toList := by
  rw [txs, List.getElem?_map, h]; rfl
theorem take_txs (l : List ByteArray) : (txs l).take l.length = txs l := List.take_of_length_le (by simp [txs])
theorem mem_txs {l : List ByteArray} {p : T → Prop} (h : ∀ x ∈ l, p x.data.toList) : ∀ v ∈ txs l, p v := by
  intro v hv
  obtain ⟨x, hx, rfl⟩ := List.mem_map.1 hv
  exact h x hx
theorem bk0 {X : Cx} : BkOk X .nil b0.l := ⟨⟨rfl, rfl⟩, trivial⟩
end Go.Proofs.YtkehggbmpdacpacGreatDoor.Pg
namespace Go.Proofs.YtkehggbmpdacpacGreatDoorW.PrintWords
open Go.RowKit
structure Aside0 (p : Prop) : Prop where mk :: (out : p)
structure Drawn0 (w w' : World) : Prop where mk :: (out : ∃ n, w' = w.drewN n)
def ReadsRow {α : Type} (R : α → List Value → Prop) (size : Nat) (w : World) (A : Option Addr) (n : Nat) (ps : List α) : Prop :=
  ps.length = n ∧ n ≤ 9223372036854775807 ∧ (0 < n → ∃ ad, A = some ad ∧ ∀ j p, ps[j]? = some p → ∃ c, c.length = size ∧ R p c ∧ ∀ i u, c[i]? = some u → w.cell? (ad.add (j * size + i)) = some u)
section
variable {α : Type} {enc : α → Value} {d : α}
def ReadsOf (enc : α → Value) (d : α) (w : World) (A : Option Addr) (n : Nat) (xs : List α) : Prop :=
  xs.length = n ∧ n ≤ 9223372036854775807 ∧ (0 < n → ∃ ad, A = some ad ∧ ∀ j, j < n → w.cell? (ad.add j) = some (enc (xs.getD j d)))
end
structure Kd (α : Type) where
  sz : Nat
  E : List Nat
  K : World → α → List Value → Prop
  M : World → Nat → (Nat → Prop) → α → List Value → Prop
  K_len : ∀ {w x cs}, K w x cs → cs.length = sz
  K_one : ∀ {w x cs}, K w x cs → ∀ u ∈ cs, u.oneCell' = true
  K_below : ∀ {w w1 : World} {x cs}, Below w.heap.size w w1 → K w x cs → K w1 x cs
  K_of_M : ∀ {w base ok x cs}, M w base ok x cs → K w x cs
  M_mono : ∀ {w base ok ok' x cs}, (∀ k, ok k → ok' k) → M w base ok x cs → M w base ok' x cs
  M_bound : ∀ {w : World} {base ok x cs}, M w base ok x cs → M w base (fun k => ok k ∧ base ≤ k ∧ k < w.heap.size ∧ ∃ q, q ∈ E ∧ ∃ cells, w.heap[k]? = some (.cells cells q (0, 0))) x cs
  M_move : ∀ {w w1 : World} {base ok x cs}, (∀ k, ok k → w1.heap[k]? = w.heap[k]?) → M w base ok x cs → M w1 base ok x cs
  M_lower : ∀ {w base base' ok x cs}, base' ≤ base → M w base ok x cs → M w base' ok x cs
namespace Kd
def C {α : Type} (d : Kd α) (w : World) (A : Option Addr) (n : Nat) (xs : List α) : Prop := ReadsRow (d.K w) d.sz w A n xs
def scalar {α : Type} (enc : α → Value) (h1 : ∀ x, (enc x).oneCell' = true) : Kd α where
  sz := 1
  E := []
  K := fun _ x cs => cs = [enc x]
  M := fun _ _ _ x cs => cs = [enc x]
  K_len := fun h => by rw [h]; rfl
  K_one := fun h u hu => by
    rw [h] at hu
    rw [List.mem_singleton.1 hu]
    exact h1 _
  K_below := fun _ h => h
  K_of_M := fun h => h
  M_mono := fun _ h => h
  M_bound := fun h => h
  M_move := fun _ h => h
  M_lower := fun _ h => h
def string : Kd ByteArray := scalar Value.string (fun _ => rfl)
theorem C_of_reads {α : Type} {enc : α → Value} {d : α} {h1 : ∀ x, (enc x).oneCell' = true} {w : World} {A : Option Addr} {n : Nat} {xs : List α} (h : ReadsOf enc d w A n xs) : (scalar enc h1).C w A n xs := by
  refine ⟨h.1, h.2.1, fun hn => ?_⟩
  obtain ⟨ad, e, hc⟩ := h.2.2 hn
  refine ⟨ad, e, fun j p hj => ⟨[enc p], rfl, rfl, fun i u hu => ?_⟩⟩
  obtain ⟨hl, hp⟩ := List.getElem?_eq_some_iff.1 hj
  have h2 := hc j (by have := h.1; omega)
  rw [List.getD_eq_getElem?_getD, hj] at h2
  cases i with
  | zero =>
    have : enc p = u := by simpa using hu
    subst this
    simpa [scalar] using h2
  | succ i => simp at hu
theorem reads_of_C {α : Type} {enc : α → Value} {d : α} {h1 : ∀ x, (enc x).oneCell' = true} {w : World} {A : Option Addr} {n : Nat} {xs : List α} (h : (scalar enc h1).C w A n xs) : ReadsOf enc d w A n xs := by
  refine ⟨h.1, h.2.1, fun hn => ?_⟩
  obtain ⟨ad, e, hc⟩ := h.2.2 hn
  refine ⟨ad, e, fun j hj => ?_⟩
  have hl : j < xs.length := by have := h.1; omega
  obtain ⟨c, _, hK, hcell⟩ := hc j _ (List.getElem?_eq_getElem hl)
  have hK' : c = [enc xs[j]] := hK
  subst hK'
  have := hcell 0 _ rfl
  simpa [scalar, List.getD_eq_getElem?_getD, List.getElem?_eq_getElem hl] using this
end Kd
namespace Kd
structure Mono {α β : Type} (F : Kd α → Kd β) : Prop where
  sz : ∀ d d' : Kd α, d.sz = d'.sz → (F d).sz = (F d').sz
  K : ∀ d d' : Kd α, d.sz = d'.sz → (∀ w x cs, d.K w x cs → d'.K w x cs) → ∀ w x cs, (F d).K w x cs → (F d').K w x cs
  M : ∀ d d' : Kd α, d.sz = d'.sz → (∀ w base ok x cs, d.M w base ok x cs → d'.M w base ok x cs) → ∀ w base ok x cs, (F d).M w base ok x cs → (F d').M w base ok x cs
end Kd
inductive Vals (P : Program) (tmps : Array Value) (w : World) : List ResultVar → List Value → Prop where
  | nil : Vals P tmps w [] []
  | tmp {u : Tmp} {rs : List ResultVar} {vs : List Value} (h : Vals P tmps w rs vs) : Vals P tmps w (.tmp u :: rs) (tmps.getD u undef :: vs)
  | cell {p : Tmp} {ty : TypeId} {rs : List ResultVar} {vs : List Value} (g : Nat) (t : TypeId) (cs : Array Value) (fr : Nat × Nat) (d : TypeDesc)
      (hp : tmps.getD p undef = .pointer (some ⟨g, 0, none⟩)) (hg : w.heap[g]? = some (.cells cs t fr))
      (hu : P.underlying ty = some d) (hd : (match d with | .struct _ | .array _ _ => true | _ => false) = true) (hi : (P.info? ty).map (·.size) = some cs.size)
      (h : Vals P tmps w rs vs) : Vals P tmps w (.cell p ty :: rs) (.agg cs :: vs)
end Go.Proofs.YtkehggbmpdacpacGreatDoorW.PrintWords
namespace Go.Proofs.YtkehggbmpdacpacGreatDoorW.PrintWords
open Go.ChangeShapes Go.WideShapes

end Go.Proofs.YtkehggbmpdacpacGreatDoorW.PrintWords
namespace Go.Proofs.YtkehggbmpdacpacGreatDoor.Row0
open Go.ChangeShapes Go.WideShapes Go.ChangeAt Go.RowKit Go.Proofs.YtkehggbmpdacpacGreatDoorW.PrintWords
section
variable {H : Type} {enc : TypeId × Value → H} {P : Program} {W : World}
theorem open_strs {t e : TypeId} {a : Option Addr} {len cap : Nat} {d : DataW H} {ps : List MemPlace}
    (hu : P.underlying t = some (.slice e)) (he : P.underlying e = some .string) (hc : P.cellsOf e = 1)
    (h : DataW.Trod enc P W 0 (fun _ => true) true t (.slice a len cap) d ps) :
    ∃ l : List ByteArray, l.length = len ∧ len ≤ cap ∧ Kd.C Kd.string W a len l := by
  obtain ⟨fuel, hf⟩ := h
  rcases open_strings hu he hc hf with ⟨hcs, _⟩ | ⟨x, l, c, ss, hcs, _, hl, hm, hz, hx, hcell, _⟩
  · simp [Value.cells] at hcs
    obtain ⟨rfl, rfl, rfl⟩ := hcs
    exact ⟨[], rfl, Nat.le_refl _, Kd.C_of_reads (d := ByteArray.empty) (h1 := fun _ => rfl) ⟨rfl, by omega, fun h => by omega⟩⟩
  · simp [Value.cells] at hcs
    obtain ⟨rfl, rfl, rfl⟩ := hcs
    simp only [if_true] at hz
    unfold maxLen at hm
    refine ⟨ss.take len, by simp; omega, hl, Kd.C_of_reads (d := ByteArray.empty) (h1 := fun _ => rfl) ⟨by simp; omega, by omega, fun _ => ⟨x, rfl, fun j hj => ?_⟩⟩⟩
    rw [hcell j (by omega)]
    simp [List.getD, hj]
theorem sized_strs {t e : TypeId} {a : Option Addr} {len cap : Nat} {d : DataW H} {ps : List MemPlace} {ts : List TypeId} {ds : List (DataW H)} {j : Nat}
    (hsz : (DataW.weightsEach P ts ds).all (· ≤ reachBytes) = true) (ht : ts[j]? = some t) (hd : ds[j]? = some d) (hu : P.underlying t = some (.slice e)) (he : P.underlying e = some .string) (hc : P.cellsOf e = 1) (hB : P.bytesOf e = 16)
    (h : DataW.Trod enc P W 0 (fun _ => true) true t (.slice a len cap) d ps) : len ≤ 8796093022208 := by
  obtain ⟨fuel, hf⟩ := h
  rcases open_strings hu he hc hf with ⟨hcs, _⟩ | ⟨x, l, c, ss, hcs, _, hl, hm, hz, hx, hcell, _⟩
  · simp [Value.cells] at hcs
    obtain ⟨rfl, rfl, rfl⟩ := hcs
    omega
  · simp [Value.cells] at hcs
    obtain ⟨rfl, rfl, rfl⟩ := hcs
    obtain ⟨hx, _⟩ := Prod.mk.inj hx
    subst hx
    have z := sized_slice hsz ht hd hu
    rw [hB] at z
    simp only [if_true] at hz
    simp only [strs, List.length_map, List.length_take, List.length_drop, reachBytes] at z
    omega
end
end Go.Proofs.YtkehggbmpdacpacGreatDoor.Row0
namespace Go.Proofs.YtkehggbmpdacpacGreatDoor.Lw
open Go.Rx
open Go.RowKit Go.Proofs.YtkehggbmpdacpacGreatDoorW.PrintWords
theorem rowAt_of {w : World} {A : Option Addr} {n c : Nat} {l : List ByteArray} (hn : l.length = n) (h : Kd.C Kd.string w A n l) : RowAt nof w (.slice A n c) n (strs l) := by
  refine ⟨A, c, rfl, fun j u hu => ?_⟩
  obtain ⟨h1, h2, h3⟩ := Kd.reads_of_C (d := ByteArray.empty) h
  have hj : j < l.length := by have := (List.getElem?_eq_some_iff.1 hu).1; simpa [strs] using this
  obtain ⟨ad, e, hc⟩ := h3 (by omega)
  refine ⟨ad, e, fun h => h, ?_⟩
  rw [hc j (by omega)]
  simp [strs, hj] at hu
  rw [← hu, List.getD_eq_getElem?_getD, List.getElem?_eq_getElem hj]
  rfl
end Go.Proofs.YtkehggbmpdacpacGreatDoor.Lw
