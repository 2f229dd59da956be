/- What the specification's tagLower and tagSkip answer; for every text. -/
import Derived.Test.YthjddnmfpdcjnaaDoorLawB
import Derived.Test.YthjddnmfpdcjnaaDoorProg
import Derived.Test.YthjddnmfpdcjnaaDoorWMore
import Derived.Test.YthjddnmfpdcjnaaDoorLib0
import Derived.Lib.ConvBytes
import Derived.Laws.BytesArg
import Derived.Deep.LoopGhost
import Derived.Lib.Hide
import Derived.WalkKit
import Derived.Outline
import Derived.BigQuiet
set_option linter.unusedVariables false
namespace Go.Proofs.YthjddnmfpdcjnaaDoor
open Go.RowKit Go.Lib Go.Proofs.YthjddnmfpdcjnaaDoorW.PrintWords Go.Proofs.YthjddnmfpdcjnaaDoor.Lib0

def lowN (c : Int) : Int := if 65 ≤ c ∧ c ≤ 90 then c + 32 else c
def lowL (s : ByteArray) : ByteArray := strOfNums ((bytesOf s).map lowN)

theorem u8_add (c : Int) (h : 65 ≤ c ∧ c ≤ 90) : IntKind.u8.wrap (c + 32) = c + 32 := by
  unfold IntKind.wrap
  simp [IntKind.bits, IntKind.signed]
  omega

def LowAt (s : ByteArray) (g k : Nat) (w : World) : Prop :=
  (∀ j : Nat, j < s.size → w.cell? ⟨g, j, none⟩ = some (.int .u8 (if j < k then lowN (bt s j) else bt s j))) ∧ (∀ j : Nat, j < s.size → w.frozen? ⟨g, j, none⟩ = false)

theorem LowAt.keep {s : ByteArray} {g k : Nat} {w : World} (h : LowAt s g k w) (hk : k < s.size) (he : lowN (bt s k) = bt s k) : LowAt s g (k + 1) w := by
  refine ⟨fun j hj => ?_, h.2⟩
  rw [h.1 j hj]
  by_cases q : j = k
  · subst q; rw [if_neg (by omega), if_pos (by omega), he]
  · by_cases q2 : j < k
    · rw [if_pos q2, if_pos (by omega)]
    · rw [if_neg q2, if_neg (by omega)]
theorem LowAt.store {s : ByteArray} {g k : Nat} {w : World} (h : LowAt s g k w) (hk : k < s.size) (he : lowN (bt s k) = bt s k + 32) : LowAt s g (k + 1) (w.setCell ⟨g, k, none⟩ (.int .u8 (bt s k + 32))) := by
  refine ⟨fun j hj => ?_, fun j hj => by rw [World.frozen?_setCell]; exact h.2 j hj⟩
  by_cases q : j = k
  · subst q; rw [World.cell?_setCell_same _ _ _ (h.1 j hj), if_pos (by omega), he]
  · rw [World.cell?_setCell_other _ _ _ _ (by intro e; cases e; exact q rfl), h.1 j hj]
    by_cases q2 : j < k
    · rw [if_pos q2, if_pos (by omega)]
    · rw [if_neg q2, if_neg (by omega)]

set_option maxHeartbeats 800000 in
theorem spec_tagLower_any (s : ByteArray) (hs : s.size ≤ 140737488355328) (w : World) :
    Calls Tryd.prog 49 #[.string s] w fun e w' => e = .returned (.string (lowL s)) ∧ Below w.heap.size w w' := by
  have hcv := fun (W : World) => print_bytes (P := Tryd.prog) 9 58 5 Tryd.underlying9 Tryd.underlying58 Tryd.underlying5 s W
  obtain ⟨cap, hcap⟩ : ∃ cap, grownCap w s.size 0 5 = cap := ⟨_, rfl⟩
  have hcv1 := hcv w
  rw [hcap] at hcv1
  clear hcv
  have hb0 : Below w.heap.size w (Lib.bytesWorld w 5 s) := bytes_below (Below.refl _ _) (Nat.le_refl _) _ _
  have hl0 : LowAt s w.heap.size 0 (Lib.bytesWorld w 5 s) := by
    refine ⟨fun j hj => ?_, fun j hj => ?_⟩
    · rw [Lib.bytesWorld_cell w _ s j hj, if_neg (by omega), bt_list]; rfl
    · unfold World.frozen?
      rw [Lib.bytesWorld_at_new]
      have : s.size ≤ (Lib.bytesCells w 5 s).size := by unfold Lib.bytesCells; simp
      simp; omega
  obtain ⟨W0, hW0⟩ : ∃ W0, Lib.bytesWorld w 5 s = W0 := ⟨_, rfl⟩
  rw [hW0] at hcv1 hb0 hl0
  have HB := Lib.hid hb0
  have HL := Lib.hid hl0
  clear hb0 hl0 hW0 hcap
  go_enter Tryd.func49, Tryd.ntmps49
  go_wp2
  go_loopg [4] s.size (fun gf i wr => ∃ k : Nat, i = .int .i64 k ∧ k ≤ s.size ∧ gf + k = s.size ∧ LowAt s w.heap.size k wr ∧ Below w.heap.size w wr)
  case atStart => exact ⟨0, rfl, by omega, by omega, HL.out, HB.out⟩
  case round =>
    clear hcv1 HB HL
    obtain ⟨k, rfl, hk, hg, hl, hb⟩ := hrel
    by_cases hlt : k < s.size
    · obtain ⟨g', rfl⟩ : ∃ g', gk = g' + 1 := ⟨gk - 1, by omega⟩
      obtain ⟨c, hc⟩ : ∃ c, bt s (k : Int) = c := ⟨_, rfl⟩
      have hcell := hl.1 k hlt
      rw [if_neg (by omega), hc] at hcell
      have hfro := hl.2 k hlt
      have HS := Lib.hid (fun he : lowN c = c + 32 => by have := hl.store hlt (by rw [hc]; exact he); rw [hc] at this; exact this)
      have HK := Lib.hid (fun he : lowN c = c => hl.keep hlt (by rw [hc]; exact he))
      have HB2 := Lib.hid hb
      have t1 : decide ((k : Int) < (s.size : Int)) = true := decide_eq_true (by omega)
      have t2 : decide (k < s.size) = true := decide_eq_true hlt
      clear hl hb hc
      by_cases c1 : 65 ≤ c
      · have d1 : decide (65 ≤ c) = true := decide_eq_true c1
        by_cases c2 : c ≤ 90
        · have d2 : decide (c ≤ 90) = true := decide_eq_true c2
          have hu := u8_add c ⟨c1, c2⟩
          have he : lowN c = c + 32 := by unfold lowN; rw [if_pos ⟨c1, c2⟩]
          have HS2 := Lib.hid (HS.out he)
          clear HS HK he
          go_wp2
          go_roundg g'
          case measure => omega
          case rel => exact ⟨k + 1, by go_num, by omega, by omega, HS2.out, HB2.out.setCell (Nat.le_refl _) _⟩
        · have d2 : decide (c ≤ 90) = false := decide_eq_false c2
          have he : lowN c = c := by unfold lowN; rw [if_neg (by omega)]
          have HK2 := Lib.hid (HK.out he)
          clear HS HK he
          go_wp2
          go_roundg g'
          case measure => omega
          case rel => exact ⟨k + 1, by go_num, by omega, by omega, HK2.out, HB2.out⟩
      · have d1 : decide (65 ≤ c) = false := decide_eq_false c1
        have he : lowN c = c := by unfold lowN; rw [if_neg (by omega)]
        have HK2 := Lib.hid (HK.out he)
        clear HS HK he
        go_wp2
        go_roundg g'
        case measure => omega
        case rel => exact ⟨k + 1, by go_num, by omega, by omega, HK2.out, HB2.out⟩
    · have hkk : k = s.size := by omega
      subst hkk
      have hst := run_convert_bytes_arg (P := Tryd.prog) (w := wr) 58 5 Tryd.underlying58 Tryd.underlying5 w.heap.size 0 s.size cap ((bytesOf s).map lowN) (by rw [List.length_map, bytesOf_length]) (fun i hi => by
        rw [Nat.zero_add, hl.1 i hi, if_pos hi]
        have h2 : i < ((bytesOf s).map lowN).length := by rw [List.length_map, bytesOf_length]; exact hi
        have h3 : i < (bytesOf s).length := by rw [bytesOf_length]; exact hi
        rw [Lib0.getD_in _ _ _ h2, List.getElem_map]
        have h4 := rd_bytesOf s (i : Int)
        unfold rd at h4
        rw [show ((i : Int)).toNat = i from rfl, Lib0.getD_in _ _ _ h3] at h4
        rw [h4]) 9 Tryd.underlying9
      have hst2 : (convert 58 9 (.slice (some ⟨w.heap.size, 0, none⟩) s.size cap)).run Tryd.prog wr = .ok (.string (lowL s)) wr := hst
      obtain ⟨r, hr⟩ : ∃ r, lowL s = r := ⟨_, rfl⟩
      rw [hr] at hst2
      have HR := Lib.hid hr
      have HB2 := Lib.hid hb
      clear hst hr hl hb
      go_wp2
      go_ret
      exact ⟨by rw [HR.out]; rfl, HB2.out⟩

def spec_tagLower.f (a0 : ByteArray) : Option ByteArray := if a0.size ≤ 140737488355328 then some (lowL a0) else none
theorem spec_tagLower.calls (a0 : ByteArray) (r : ByteArray) (w : World) (h : spec_tagLower.f a0 = some r) :
    Calls Tryd.prog 49 #[.string a0] w fun e w' => e = .returned (.string r) ∧ Below w.heap.size w w' := by
  unfold spec_tagLower.f at h
  split at h
  · rename_i hs
    cases h
    exact spec_tagLower_any a0 hs w
  · cases h

end Go.Proofs.YthjddnmfpdcjnaaDoor
namespace Go.Proofs.YthjddnmfpdcjnaaDoor
open Go.Rx hiding bt
open Go.RowKit Go.Proofs.YthjddnmfpdcjnaaDoorW.PrintWords Go.Proofs.YthjddnmfpdcjnaaDoor.Lib0 Go.Proofs.YthjddnmfpdcjnaaDoor.Tag0 Go.Proofs.YthjddnmfpdcjnaaDoor.NextW Go.Proofs.YthjddnmfpdcjnaaDoor.LawA Go.Proofs.YthjddnmfpdcjnaaDoor.LawB

def skipC (s nm : ByteArray) (p : Nat) : Prop := bt s (p : Nat) = 60 ∧ bt s ((p + 1 : Nat) : Int) = 47 ∧ lowL (s.extract (p + 2) (p + 2 + nm.size)) = lowL nm ∧ nend (bt s ((p + 2 + nm.size : Nat) : Int)) = true
instance (s nm : ByteArray) (p : Nat) : Decidable (skipC s nm p) := by unfold skipC; infer_instance
def skipS (s nm : ByteArray) (p : Nat) : Nat := if p + 2 + nm.size < s.size then (if skipC s nm p then p else skipS s nm (p + 1)) else s.size
termination_by s.size - p
theorem skipS_yes {s nm : ByteArray} {p : Nat} (h : p + 2 + nm.size < s.size) (hc : skipC s nm p) : skipS s nm p = p := by rw [skipS, if_pos h, if_pos hc]
theorem skipS_no {s nm : ByteArray} {p : Nat} (h : p + 2 + nm.size < s.size) (hc : ¬ skipC s nm p) : skipS s nm p = skipS s nm (p + 1) := by rw [skipS, if_pos h, if_neg hc]
theorem skipS_end {s nm : ByteArray} {p : Nat} (h : ¬ p + 2 + nm.size < s.size) : skipS s nm p = s.size := by rw [skipS, if_neg h]
def spec_tagSkip.f (a0 : ByteArray) (a1 : Int) (a2 : ByteArray) : Option Int := if 0 ≤ a1 ∧ a1 ≤ (a0.size : Int) ∧ a0.size ≤ 140737488355328 ∧ a2.size ≤ 140737488355328 then some ((skipS a0 a2 a1.toNat : Nat) : Int) else none
theorem bo49 : bodyB Tryd.prog 49 = true := by kernel_rfl
theorem bo50 : bodyB Tryd.prog 50 = true := by kernel_rfl
set_option maxHeartbeats 1000000 in
set_option maxRecDepth 100000 in
theorem tagBlank_own (c : Int) (w : World) : Calls Tryd.prog 50 #[.int .u8 c] w fun e w' => e = .returned (.bool (spc c)) ∧ Below w.heap.size w w' := by
  refine enter (fun _ => False) 21 [] Tryd.func50 rfl rfl rfl (vs := [.int .u8 c]) (Has.nil _) ?_
  conv => arg 2; arg 2; whnf
  have hT : spc c = true ∨ spc c = false := by cases spc c <;> simp
  have e : spc c = true ↔ (c = 32 ∨ c = 9 ∨ c = 10 ∨ c = 13 ∨ c = 12) := by
    unfold spc; simp only [Bool.or_eq_true, beq_iff_eq]; omega
  have et : (c = 32 ∨ c = 9 ∨ c = 10 ∨ c = 13 ∨ c = 12) → spc c = true := e.2
  have ef : ¬ (c = 32 ∨ c = 9 ∨ c = 10 ∨ c = 13 ∨ c = 12) → spc c = false := fun h => by rcases hT with h1 | h1; exact absurd (e.1 h1) h; exact h1
  repeat' (first | (show PJ _ (Code.wp _ _ _) _ _; first | refine cseq ?_ | refine rtext ?_ | refine ctrue rfl ?_ | refine cfalse rfl ?_ | refine cskip ?_ | refine cblk ?_ | refine cret ?_ | refine cexit ?_ | refine csplit' rfl (fun hq => ?_) (fun hq => ?_)  | refine rquiet mixed (by kernel_rfl) ?_) | (show PJ _ (Exit.then _ _ _) _ _; first | refine tnorm ?_ | refine tret ?_ | refine texit ?_) | (show PJ _ (Exit.inBlock _ _ _) _ _; first | refine bnorm ?_ | refine bret ?_ | refine bexit ?_ | refine bother rfl ?_) | (show PJ _ (wpList _ _ _ _) _ _; refine jlist ?_) | (show J _ _ _ _ _ _ [] _ _; refine jnil ?_) | (show J _ _ _ _ _ _ (_ :: _) _ _; first | refine js rfl rfl ?_ | (show J _ _ _ _ _ _ (⟨_, .move _, _, _, _, _⟩ :: _) _ _; refine jy (ymove rfl) rfl rfl ?_) | (show J _ _ _ _ _ _ (⟨_, .nilCheck _, _, _, _, _⟩ :: _) _ _; refine jy (ynil rfl) rfl rfl ?_) | (show J _ _ _ _ _ _ (⟨_, .fieldAddr _ _ _, _, _, _, _⟩ :: _) _ _; refine jy (yfield rfl (by first | exact fb27_0 | exact fb27_1 | exact fb27_2 | exact fb32_0 | exact fb32_1 | exact fb32_2 | exact fb53_0 | exact fb53_1 | exact fb53_2 | exact fb53_3 | exact fb30_0 | exact fb30_1 | exact fb30_2 | exact fb30_3) rfl) rfl rfl ?_) | (show J _ _ _ _ _ _ (⟨_, .load _ _, _, _, _, _⟩ :: _) _ _; first | refine jy (yload (i := 0) rfl rfl rfl (by first | exact one3 | exact one9 | exact one4 | exact one51)) rfl rfl ?_ | refine jy (yload (i := 1) rfl rfl rfl (by first | exact one3 | exact one9 | exact one4 | exact one51)) rfl rfl ?_ | refine jy (yloads (i := 0) rfl rfl (by first | exact ag53 | exact ag27 | exact ag32)) rfl rfl ?_ | refine jy (yload (i := 2) rfl rfl rfl (by first | exact one3 | exact one9 | exact one4 | exact one51)) rfl rfl ?_ | refine jy (yload (i := 3) rfl rfl rfl (by first | exact one3 | exact one9 | exact one4 | exact one51)) rfl rfl ?_ | refine jy (yloads (i := 1) rfl rfl (by first | exact ag53 | exact ag27 | exact ag32)) rfl rfl ?_) | (show J _ _ _ _ _ _ (⟨_, .assign _, _, _, _, _⟩ :: _) _ _; refine jy (yassign rfl) rfl rfl ?_) | (show J _ _ _ _ _ _ (⟨_, .binOp _ _ _ _ _, _, _, _, _⟩ :: _) _ _; first | refine jeql rfl rfl rfl rfl (fun hq => ?_) (fun hq => ?_) | refine jy (yadd rfl rfl (i64_in (by omega) (by omega))) rfl rfl ?_ | refine jy (ylss rfl rfl (by first | exact decide_eq_true (by omega) | exact decide_eq_false (by omega))) rfl rfl ?_ | refine jlss rfl rfl rfl rfl (fun hq => ?_) (fun hq => ?_) | refine jy (yeql rfl rfl (by first | exact decide_eq_true (by omega) | exact decide_eq_false (by omega))) rfl rfl ?_ | refine jeql rfl rfl rfl rfl (fun hq => ?_) (fun hq => ?_) | refine jy (ygeq rfl rfl (by first | exact decide_eq_true (by omega) | exact decide_eq_false (by omega))) rfl rfl ?_ | refine jgeq rfl rfl rfl rfl (fun hq => ?_) (fun hq => ?_)) | (show J _ _ _ _ _ _ (⟨_, .store _ _ _, _, _, _, _⟩ :: _) _ _; first | refine jstore (i := 0) rfl rfl rfl rfl rfl (by first | exact si3 | exact si9 | exact si51 | exact si4 | exact si53 | exact si27 | exact si49) (by first | exact hS | exact .inr hT) ?_ | refine jstore (i := 1) rfl rfl rfl rfl rfl (by first | exact si3 | exact si9 | exact si51 | exact si4 | exact si53 | exact si27 | exact si49) (by first | exact hS | exact .inr hT) ?_ | refine jstores (i := 0) rfl rfl rfl rfl rfl (by first | exact si3 | exact si9 | exact si51 | exact si4 | exact si53 | exact si27 | exact si49) (.inr hT) ?_ | refine jstores (i := 0) rfl rfl rfl rfl rfl (by first | exact si27 | exact si49 | exact si53) (.inr (by assumption)) ?_ | refine jstorep (i := 1) rfl rfl rfl rfl rfl sz30 (.inr (by assumption)) ?_ | refine jstore (i := 0) rfl rfl rfl rfl rfl (by first | exact si3 | exact si4) (.inr (by assumption)) ?_ | refine jstore (i := 1) rfl rfl rfl rfl rfl (by first | exact si3 | exact si4) (.inr (by assumption)) ?_) | (show J _ _ _ _ _ _ (⟨_, .pick _ _ _, _, _, _, _⟩ :: _) _ _; first | refine jy (ypick1 rfl rfl) rfl rfl ?_ | refine jy (ypick0 rfl rfl) rfl rfl ?_) | (show J _ _ _ _ _ _ (⟨_, .unOp _ _ _, _, _, _, _⟩ :: _) _ _; refine jy (ynot rfl rfl) rfl rfl ?_) | (show J _ _ _ _ _ _ (⟨_, .index _ _ _, _, _, _, _⟩ :: _) _ _; refine jy (yidx (c := bt _ _) rfl rfl und9 (by omega) (by omega) rfl) rfl rfl ?_) | (show J _ _ _ _ _ _ (⟨_, .slice _ _ _ _ _, _, _, _, _⟩ :: _) _ _; refine jy (yslice rfl rfl rfl und9 (by omega) (by omega) (by omega) rfl) rfl rfl ?_) | (show J _ _ _ _ _ _ (⟨_, .call _, _, _, _, _⟩ :: _) _ _; first | refine jy (ylens rfl und9) rfl rfl ?_) | (show J _ _ _ _ _ _ (⟨_, .extract _ _, _, _, _, _⟩ :: _) _ _; refine jy (yextractL rfl rfl) rfl rfl ?_)  | (show J _ _ _ _ _ _ (⟨_, .build _ _, _, _, _, _⟩ :: _) _ _; refine jy (ybuild rfl (by first | exact bu0 | exact bu3 _)) rfl rfl ?_)))
  all_goals first
    | (refine ret1 rfl rfl (v := .bool true) rfl (fun w' hw' => ⟨by rw [et (by omega)], hw'.2.below (fun k _ h => h) (Nat.le_refl _)⟩))
    | (refine ret1 rfl rfl (v := .bool false) rfl (fun w' hw' => ⟨by rw [ef (by omega)], hw'.2.below (fun k _ h => h) (Nat.le_refl _)⟩))
set_option maxHeartbeats 1000000 in
set_option maxRecDepth 100000 in
theorem tagSkip_own (s nm : ByteArray) (p0 : Nat) (hp0 : p0 ≤ s.size) (hs : s.size ≤ 140737488355328) (hn : nm.size ≤ 140737488355328) (w : World) :
    Calls Tryd.prog 35 #[.string s, .int .i64 (p0 : Nat), .string nm] w fun e w' => e = .returned (.int .i64 ((skipS s nm p0 : Nat) : Int)) ∧ Below w.heap.size w w' := by
  refine enter (fun _ => False) 68 [] Tryd.func35 rfl rfl rfl (vs := [.string s, .int .i64 (p0 : Nat), .string nm]) (Has.nil _) ?_
  conv => arg 2; arg 2; whnf
  have post : ∀ (v : Nat) (f : Fr) (m : Mem), v = skipS s nm p0 → Rx.look f 6 = some (.int .i64 (v : Nat)) → PJ ⟨68, [], fun _ => False, w⟩ (bodyPost Tryd.prog Tryd.f35 (fun e w' => e = .returned (.int .i64 ((skipS s nm p0 : Nat) : Int)) ∧ Below w.heap.size w w') .ret) f m := fun v f m hv hf =>
    ret1 rfl rfl hf (fun w' hw' => ⟨by rw [hv], hw'.2.below (fun k _ h => h) (Nat.le_refl _)⟩)
  repeat' (first | (show PJ _ (Code.wp _ _ _) _ _; first | refine cseq ?_ | refine rtext ?_ | refine ctrue rfl ?_ | refine cfalse rfl ?_ | refine cskip ?_ | refine cblk ?_ | refine cret ?_ | refine cexit ?_ | refine csplit' rfl (fun hq => ?_) (fun hq => ?_)  | refine rquiet mixed (by kernel_rfl) ?_) | (show PJ _ (Exit.then _ _ _) _ _; first | refine tnorm ?_ | refine tret ?_ | refine texit ?_) | (show PJ _ (Exit.inBlock _ _ _) _ _; first | refine bnorm ?_ | refine bret ?_ | refine bexit ?_ | refine bother rfl ?_) | (show PJ _ (wpList _ _ _ _) _ _; refine jlist ?_) | (show J _ _ _ _ _ _ [] _ _; refine jnil ?_) | (show J _ _ _ _ _ _ (_ :: _) _ _; first | refine js rfl rfl ?_ | (show J _ _ _ _ _ _ (⟨_, .move _, _, _, _, _⟩ :: _) _ _; refine jy (ymove rfl) rfl rfl ?_) | (show J _ _ _ _ _ _ (⟨_, .nilCheck _, _, _, _, _⟩ :: _) _ _; refine jy (ynil rfl) rfl rfl ?_) | (show J _ _ _ _ _ _ (⟨_, .fieldAddr _ _ _, _, _, _, _⟩ :: _) _ _; refine jy (yfield rfl (by first | exact fb27_0 | exact fb27_1 | exact fb27_2 | exact fb32_0 | exact fb32_1 | exact fb32_2 | exact fb53_0 | exact fb53_1 | exact fb53_2 | exact fb53_3 | exact fb30_0 | exact fb30_1 | exact fb30_2 | exact fb30_3) rfl) rfl rfl ?_) | (show J _ _ _ _ _ _ (⟨_, .load _ _, _, _, _, _⟩ :: _) _ _; first | refine jy (yload (i := 0) rfl rfl rfl (by first | exact one3 | exact one9 | exact one4 | exact one51)) rfl rfl ?_ | refine jy (yload (i := 1) rfl rfl rfl (by first | exact one3 | exact one9 | exact one4 | exact one51)) rfl rfl ?_ | refine jy (yloads (i := 0) rfl rfl (by first | exact ag53 | exact ag27 | exact ag32)) rfl rfl ?_ | refine jy (yload (i := 2) rfl rfl rfl (by first | exact one3 | exact one9 | exact one4 | exact one51)) rfl rfl ?_ | refine jy (yload (i := 3) rfl rfl rfl (by first | exact one3 | exact one9 | exact one4 | exact one51)) rfl rfl ?_ | refine jy (yloads (i := 1) rfl rfl (by first | exact ag53 | exact ag27 | exact ag32)) rfl rfl ?_) | (show J _ _ _ _ _ _ (⟨_, .assign _, _, _, _, _⟩ :: _) _ _; refine jy (yassign rfl) rfl rfl ?_) | (show J _ _ _ _ _ _ (⟨_, .binOp _ _ _ _ _, _, _, _, _⟩ :: _) _ _; first  | refine jy (yadd rfl rfl (i64_in (by omega) (by omega))) rfl rfl ?_ | refine jy (ylss rfl rfl (by first | exact decide_eq_true (by omega) | exact decide_eq_false (by omega))) rfl rfl ?_ | refine jlss rfl rfl rfl rfl (fun hq => ?_) (fun hq => ?_) | refine jy (yeql rfl rfl (by first | exact decide_eq_true (by omega) | exact decide_eq_false (by omega))) rfl rfl ?_ | refine jeql rfl rfl rfl rfl (fun hq => ?_) (fun hq => ?_) | refine jy (ygeq rfl rfl (by first | exact decide_eq_true (by omega) | exact decide_eq_false (by omega))) rfl rfl ?_ | refine jgeq rfl rfl rfl rfl (fun hq => ?_) (fun hq => ?_)) | (show J _ _ _ _ _ _ (⟨_, .store _ _ _, _, _, _, _⟩ :: _) _ _; first | refine jstore (i := 0) rfl rfl rfl rfl rfl (by first | exact si3 | exact si9 | exact si51 | exact si4 | exact si53 | exact si27 | exact si49) (by first | exact hS | exact .inr hT) ?_ | refine jstore (i := 1) rfl rfl rfl rfl rfl (by first | exact si3 | exact si9 | exact si51 | exact si4 | exact si53 | exact si27 | exact si49) (by first | exact hS | exact .inr hT) ?_ | refine jstores (i := 0) rfl rfl rfl rfl rfl (by first | exact si3 | exact si9 | exact si51 | exact si4 | exact si53 | exact si27 | exact si49) (.inr hT) ?_ | refine jstores (i := 0) rfl rfl rfl rfl rfl (by first | exact si27 | exact si49 | exact si53) (.inr (by assumption)) ?_ | refine jstorep (i := 1) rfl rfl rfl rfl rfl sz30 (.inr (by assumption)) ?_ | refine jstore (i := 0) rfl rfl rfl rfl rfl (by first | exact si3 | exact si4) (.inr (by assumption)) ?_ | refine jstore (i := 1) rfl rfl rfl rfl rfl (by first | exact si3 | exact si4) (.inr (by assumption)) ?_) | (show J _ _ _ _ _ _ (⟨_, .pick _ _ _, _, _, _, _⟩ :: _) _ _; first | refine jy (ypick1 rfl rfl) rfl rfl ?_ | refine jy (ypick0 rfl rfl) rfl rfl ?_) | (show J _ _ _ _ _ _ (⟨_, .unOp _ _ _, _, _, _, _⟩ :: _) _ _; refine jy (ynot rfl rfl) rfl rfl ?_) | (show J _ _ _ _ _ _ (⟨_, .index _ _ _, _, _, _, _⟩ :: _) _ _; refine jy (yidx (c := bt _ _) rfl rfl und9 (by omega) (by omega) rfl) rfl rfl ?_) | (show J _ _ _ _ _ _ (⟨_, .slice _ _ _ _ _, _, _, _, _⟩ :: _) _ _; refine jy (yslice rfl rfl rfl und9 (by omega) (by omega) (by omega) rfl) rfl rfl ?_) | (show J _ _ _ _ _ _ (⟨_, .call _, _, _, _, _⟩ :: _) _ _; first | refine jy (ylens rfl und9) rfl rfl ?_) | (show J _ _ _ _ _ _ (⟨_, .extract _ _, _, _, _, _⟩ :: _) _ _; refine jy (yextractL rfl rfl) rfl rfl ?_)  | (show J _ _ _ _ _ _ (⟨_, .build _ _, _, _, _, _⟩ :: _) _ _; refine jy (ybuild rfl (by first | exact bu0 | exact bu3 _)) rfl rfl ?_)))
  refine fin (f' := [(0, .string s), (2, .string nm), (7, .int .i64 (p0 : Nat))]) (m' := [])
    (cloop (ι := Nat) (fun p => [(0, .string s), (2, .string nm), (7, .int .i64 (p : Nat))]) (fun _ => []) (fun k p => p ≤ s.size ∧ k = s.size - p ∧ skipS s nm p0 = skipS s nm p) (s.size - p0) p0 ⟨hp0, rfl, rfl⟩ ?_) ⟨rfl, rfl, rfl, trivial⟩ rfl
  rintro k p ⟨hp, rfl, hsk⟩ K hK
  by_cases hlt : p + 2 + nm.size < s.size
  · obtain ⟨e, he⟩ : ∃ e, s.extract (((p + 2 : Nat) : Int)).toNat (((p + 2 + nm.size : Nat) : Int)).toNat = e := ⟨_, rfl⟩
    have he' : s.extract (p + 2) (p + 2 + nm.size) = e := he
    have hes : e.size = nm.size := by rw [← he']; simp; omega
    have yes : skipC s nm p → p = skipS s nm p0 := fun h => by rw [hsk, skipS_yes hlt h]
    have no : ¬ skipC s nm p → ∀ (f : Fr) (m : Mem), Sub f [(0, .string s), (2, .string nm), (7, .int .i64 ((p + 1 : Nat) : Int))] → PJ ⟨68, [], fun _ => False, w⟩ K f m := fun h f m hsb =>
      less hsb.all (List.nil_sublist _) (hK (s.size - (p + 1)) (p + 1) (by omega) ⟨by omega, rfl, by rw [hsk, skipS_no hlt h]⟩)
    have nd : nend (bt s ((p + 2 + nm.size : Nat) : Int)) = true ↔ (spc (bt s ((p + 2 + nm.size : Nat) : Int)) = true ∨ bt s ((p + 2 + nm.size : Nat) : Int) = 47 ∨ bt s ((p + 2 + nm.size : Nat) : Int) = 62) := by
      unfold nend; simp only [Bool.or_eq_true, beq_iff_eq, or_assoc]
    repeat' (first | (show J _ _ _ _ _ _ (⟨_, .slice _ _ _ _ _, _, _, _, _⟩ :: _) _ _; refine jy (yslice (r := e) rfl rfl rfl und9 (by omega) (by omega) (by omega) he) rfl rfl ?_) | first | (show PJ _ (Code.wp _ _ _) _ _; first | refine cseq ?_ | refine rtext ?_ | refine ctrue rfl ?_ | refine cfalse rfl ?_ | refine cskip ?_ | refine cblk ?_ | refine cret ?_ | refine cexit ?_ | refine csplit' rfl (fun hq => ?_) (fun hq => ?_)  | refine rquiet mixed (by kernel_rfl) ?_) | (show PJ _ (Exit.then _ _ _) _ _; first | refine tnorm ?_ | refine tret ?_ | refine texit ?_) | (show PJ _ (Exit.inBlock _ _ _) _ _; first | refine bnorm ?_ | refine bret ?_ | refine bexit ?_ | refine bother rfl ?_) | (show PJ _ (wpList _ _ _ _) _ _; refine jlist ?_) | (show J _ _ _ _ _ _ [] _ _; refine jnil ?_) | (show J _ _ _ _ _ _ (_ :: _) _ _; first | refine js rfl rfl ?_ | (show J _ _ _ _ _ _ (⟨_, .move _, _, _, _, _⟩ :: _) _ _; refine jy (ymove rfl) rfl rfl ?_) | (show J _ _ _ _ _ _ (⟨_, .nilCheck _, _, _, _, _⟩ :: _) _ _; refine jy (ynil rfl) rfl rfl ?_) | (show J _ _ _ _ _ _ (⟨_, .fieldAddr _ _ _, _, _, _, _⟩ :: _) _ _; refine jy (yfield rfl (by first | exact fb27_0 | exact fb27_1 | exact fb27_2 | exact fb32_0 | exact fb32_1 | exact fb32_2 | exact fb53_0 | exact fb53_1 | exact fb53_2 | exact fb53_3 | exact fb30_0 | exact fb30_1 | exact fb30_2 | exact fb30_3) rfl) rfl rfl ?_) | (show J _ _ _ _ _ _ (⟨_, .load _ _, _, _, _, _⟩ :: _) _ _; first | refine jy (yload (i := 0) rfl rfl rfl (by first | exact one3 | exact one9 | exact one4 | exact one51)) rfl rfl ?_ | refine jy (yload (i := 1) rfl rfl rfl (by first | exact one3 | exact one9 | exact one4 | exact one51)) rfl rfl ?_ | refine jy (yloads (i := 0) rfl rfl (by first | exact ag53 | exact ag27 | exact ag32)) rfl rfl ?_ | refine jy (yload (i := 2) rfl rfl rfl (by first | exact one3 | exact one9 | exact one4 | exact one51)) rfl rfl ?_ | refine jy (yload (i := 3) rfl rfl rfl (by first | exact one3 | exact one9 | exact one4 | exact one51)) rfl rfl ?_ | refine jy (yloads (i := 1) rfl rfl (by first | exact ag53 | exact ag27 | exact ag32)) rfl rfl ?_) | (show J _ _ _ _ _ _ (⟨_, .assign _, _, _, _, _⟩ :: _) _ _; refine jy (yassign rfl) rfl rfl ?_) | (show J _ _ _ _ _ _ (⟨_, .binOp _ _ _ _ _, _, _, _, _⟩ :: _) _ _; first | (show J _ _ _ _ _ _ (⟨_, .binOp .add 3 _ (.const (.int _ 2)) _, _, _, _, _⟩ :: _) _ _; refine jy (yadd (c := ((p + 2 : Nat) : Int)) rfl rfl (by rw [i64_in (by omega) (by omega)]; omega)) rfl rfl ?_) | (show J _ _ _ _ _ _ (⟨_, .binOp .add 3 _ (.const (.int _ 1)) _, _, _, _, _⟩ :: _) _ _; refine jy (yadd (c := ((p + 1 : Nat) : Int)) rfl rfl (by rw [i64_in (by omega) (by omega)]; omega)) rfl rfl ?_) | (show J _ _ _ _ _ _ (⟨_, .binOp .add 3 _ _ _, _, _, _, _⟩ :: _) _ _; refine jy (yadd (c := ((p + 2 + nm.size : Nat) : Int)) rfl rfl (by rw [i64_in (by omega) (by omega)]; omega)) rfl rfl ?_) | (show J _ _ _ _ _ _ (⟨_, .binOp .eql 9 _ _ _, _, _, _, _⟩ :: _) _ _; refine jseql rfl rfl rfl rfl (fun hq => ?_) (fun hq => ?_)) | refine jeql rfl rfl rfl rfl (fun hq => ?_) (fun hq => ?_) | refine jy (yadd rfl rfl (i64_in (by omega) (by omega))) rfl rfl ?_ | refine jy (ylss rfl rfl (by first | exact decide_eq_true (by omega) | exact decide_eq_false (by omega))) rfl rfl ?_ | refine jlss rfl rfl rfl rfl (fun hq => ?_) (fun hq => ?_) | refine jy (yeql rfl rfl (by first | exact decide_eq_true (by omega) | exact decide_eq_false (by omega))) rfl rfl ?_ | refine jeql rfl rfl rfl rfl (fun hq => ?_) (fun hq => ?_) | refine jy (ygeq rfl rfl (by first | exact decide_eq_true (by omega) | exact decide_eq_false (by omega))) rfl rfl ?_ | refine jgeq rfl rfl rfl rfl (fun hq => ?_) (fun hq => ?_)) | (show J _ _ _ _ _ _ (⟨_, .store _ _ _, _, _, _, _⟩ :: _) _ _; first | refine jstore (i := 0) rfl rfl rfl rfl rfl (by first | exact si3 | exact si9 | exact si51 | exact si4 | exact si53 | exact si27 | exact si49) (by first | exact hS | exact .inr hT) ?_ | refine jstore (i := 1) rfl rfl rfl rfl rfl (by first | exact si3 | exact si9 | exact si51 | exact si4 | exact si53 | exact si27 | exact si49) (by first | exact hS | exact .inr hT) ?_ | refine jstores (i := 0) rfl rfl rfl rfl rfl (by first | exact si3 | exact si9 | exact si51 | exact si4 | exact si53 | exact si27 | exact si49) (.inr hT) ?_ | refine jstores (i := 0) rfl rfl rfl rfl rfl (by first | exact si27 | exact si49 | exact si53) (.inr (by assumption)) ?_ | refine jstorep (i := 1) rfl rfl rfl rfl rfl sz30 (.inr (by assumption)) ?_ | refine jstore (i := 0) rfl rfl rfl rfl rfl (by first | exact si3 | exact si4) (.inr (by assumption)) ?_ | refine jstore (i := 1) rfl rfl rfl rfl rfl (by first | exact si3 | exact si4) (.inr (by assumption)) ?_) | (show J _ _ _ _ _ _ (⟨_, .pick _ _ _, _, _, _, _⟩ :: _) _ _; first | refine jy (ypick1 rfl rfl) rfl rfl ?_ | refine jy (ypick0 rfl rfl) rfl rfl ?_) | (show J _ _ _ _ _ _ (⟨_, .unOp _ _ _, _, _, _, _⟩ :: _) _ _; refine jy (ynot rfl rfl) rfl rfl ?_) | (show J _ _ _ _ _ _ (⟨_, .index _ _ _, _, _, _, _⟩ :: _) _ _; refine jy (yidx (c := bt _ _) rfl rfl und9 (by omega) (by omega) rfl) rfl rfl ?_) | (show J _ _ _ _ _ _ (⟨_, .slice _ _ _ _ _, _, _, _, _⟩ :: _) _ _; refine jy (yslice rfl rfl rfl und9 (by omega) (by omega) (by omega) rfl) rfl rfl ?_) | (show J _ _ _ _ _ _ (⟨_, .call _, _, _, _, _⟩ :: _) _ _; first | (show J _ _ _ _ _ _ (⟨_, .call ⟨.value (.func 49), _, _⟩, _, _, _, _⟩ :: _) _ _; first | refine jcallq (vs := [.string e]) bo49 rfl rfl rfl (quietC fun w _ => spec_tagLower_any e (by omega) w) ?_ | refine jcallq (vs := [.string nm]) bo49 rfl rfl rfl (quietC fun w _ => spec_tagLower_any nm (by omega) w) ?_) | (show J _ _ _ _ _ _ (⟨_, .call ⟨.value (.func 50), _, _⟩, _, _, _, _⟩ :: _) _ _; refine jcallq bo50 rfl rfl rfl (quietC fun w _ => tagBlank_own _ w) ?_; refine jcases (fun hq => ?_) (fun hq => ?_)) | refine jy (ylens rfl und9) rfl rfl ?_) | (show J _ _ _ _ _ _ (⟨_, .extract _ _, _, _, _, _⟩ :: _) _ _; refine jy (yextractL rfl rfl) rfl rfl ?_) | (show J _ _ _ _ _ _ (⟨_, .slice _ _ _ _ _, _, _, _, _⟩ :: _) _ _; refine jy (yslice (r := e) rfl rfl rfl und9 (by omega) (by omega) (by omega) he) rfl rfl ?_) | (show J _ _ _ _ _ _ (⟨_, .build _ _, _, _, _, _⟩ :: _) _ _; refine jy (ybuild rfl (by first | exact bu0 | exact bu3 _)) rfl rfl ?_)))
    all_goals first
      | (refine post p _ _ (yes ⟨by assumption, by assumption, by rw [he']; assumption, nd.2 (by first | exact .inl (by assumption) | exact .inr (.inl (by assumption)) | exact .inr (.inr (by assumption)))⟩) rfl)
      | (refine no (fun h => ?_) _ _ ⟨rfl, rfl, rfl, trivial⟩
         obtain ⟨h1, h2, h3, h4⟩ := h
         rw [he'] at h3
         have h5 := nd.1 h4
         first
           | exact absurd h1 (by assumption)
           | exact absurd h2 (by assumption)
           | exact absurd h3 (by assumption)
           | (rcases h5 with h5 | h5 | h5
              · rw [h5] at *; simp_all
              · exact absurd h5 (by assumption)
              · exact absurd h5 (by assumption)))
  · repeat' (first | (show J _ _ _ _ _ _ (⟨_, .binOp .lss _ _ _ _, _, _, _, _⟩ :: _) _ _; refine jy (ylss rfl rfl (decide_eq_false (by omega))) rfl rfl ?_) | first | (show PJ _ (Code.wp _ _ _) _ _; first | refine cseq ?_ | refine rtext ?_ | refine ctrue rfl ?_ | refine cfalse rfl ?_ | refine cskip ?_ | refine cblk ?_ | refine cret ?_ | refine cexit ?_ | refine csplit' rfl (fun hq => ?_) (fun hq => ?_)  | refine rquiet mixed (by kernel_rfl) ?_) | (show PJ _ (Exit.then _ _ _) _ _; first | refine tnorm ?_ | refine tret ?_ | refine texit ?_) | (show PJ _ (Exit.inBlock _ _ _) _ _; first | refine bnorm ?_ | refine bret ?_ | refine bexit ?_ | refine bother rfl ?_) | (show PJ _ (wpList _ _ _ _) _ _; refine jlist ?_) | (show J _ _ _ _ _ _ [] _ _; refine jnil ?_) | (show J _ _ _ _ _ _ (_ :: _) _ _; first | refine js rfl rfl ?_ | (show J _ _ _ _ _ _ (⟨_, .move _, _, _, _, _⟩ :: _) _ _; refine jy (ymove rfl) rfl rfl ?_) | (show J _ _ _ _ _ _ (⟨_, .nilCheck _, _, _, _, _⟩ :: _) _ _; refine jy (ynil rfl) rfl rfl ?_) | (show J _ _ _ _ _ _ (⟨_, .fieldAddr _ _ _, _, _, _, _⟩ :: _) _ _; refine jy (yfield rfl (by first | exact fb27_0 | exact fb27_1 | exact fb27_2 | exact fb32_0 | exact fb32_1 | exact fb32_2 | exact fb53_0 | exact fb53_1 | exact fb53_2 | exact fb53_3 | exact fb30_0 | exact fb30_1 | exact fb30_2 | exact fb30_3) rfl) rfl rfl ?_) | (show J _ _ _ _ _ _ (⟨_, .load _ _, _, _, _, _⟩ :: _) _ _; first | refine jy (yload (i := 0) rfl rfl rfl (by first | exact one3 | exact one9 | exact one4 | exact one51)) rfl rfl ?_ | refine jy (yload (i := 1) rfl rfl rfl (by first | exact one3 | exact one9 | exact one4 | exact one51)) rfl rfl ?_ | refine jy (yloads (i := 0) rfl rfl (by first | exact ag53 | exact ag27 | exact ag32)) rfl rfl ?_ | refine jy (yload (i := 2) rfl rfl rfl (by first | exact one3 | exact one9 | exact one4 | exact one51)) rfl rfl ?_ | refine jy (yload (i := 3) rfl rfl rfl (by first | exact one3 | exact one9 | exact one4 | exact one51)) rfl rfl ?_ | refine jy (yloads (i := 1) rfl rfl (by first | exact ag53 | exact ag27 | exact ag32)) rfl rfl ?_) | (show J _ _ _ _ _ _ (⟨_, .assign _, _, _, _, _⟩ :: _) _ _; refine jy (yassign rfl) rfl rfl ?_) | (show J _ _ _ _ _ _ (⟨_, .binOp _ _ _ _ _, _, _, _, _⟩ :: _) _ _; first | (show J _ _ _ _ _ _ (⟨_, .binOp .add 3 _ (.const (.int _ 2)) _, _, _, _, _⟩ :: _) _ _; refine jy (yadd (c := ((p + 2 : Nat) : Int)) rfl rfl (by rw [i64_in (by omega) (by omega)]; omega)) rfl rfl ?_) | (show J _ _ _ _ _ _ (⟨_, .binOp .add 3 _ (.const (.int _ 1)) _, _, _, _, _⟩ :: _) _ _; refine jy (yadd (c := ((p + 1 : Nat) : Int)) rfl rfl (by rw [i64_in (by omega) (by omega)]; omega)) rfl rfl ?_) | (show J _ _ _ _ _ _ (⟨_, .binOp .add 3 _ _ _, _, _, _, _⟩ :: _) _ _; refine jy (yadd (c := ((p + 2 + nm.size : Nat) : Int)) rfl rfl (by rw [i64_in (by omega) (by omega)]; omega)) rfl rfl ?_) | (show J _ _ _ _ _ _ (⟨_, .binOp .eql 9 _ _ _, _, _, _, _⟩ :: _) _ _; refine jseql rfl rfl rfl rfl (fun hq => ?_) (fun hq => ?_)) | refine jeql rfl rfl rfl rfl (fun hq => ?_) (fun hq => ?_) | refine jy (yadd rfl rfl (i64_in (by omega) (by omega))) rfl rfl ?_ | refine jy (ylss rfl rfl (by first | exact decide_eq_true (by omega) | exact decide_eq_false (by omega))) rfl rfl ?_ | refine jlss rfl rfl rfl rfl (fun hq => ?_) (fun hq => ?_) | refine jy (yeql rfl rfl (by first | exact decide_eq_true (by omega) | exact decide_eq_false (by omega))) rfl rfl ?_ | refine jeql rfl rfl rfl rfl (fun hq => ?_) (fun hq => ?_) | refine jy (ygeq rfl rfl (by first | exact decide_eq_true (by omega) | exact decide_eq_false (by omega))) rfl rfl ?_ | refine jgeq rfl rfl rfl rfl (fun hq => ?_) (fun hq => ?_)) | (show J _ _ _ _ _ _ (⟨_, .store _ _ _, _, _, _, _⟩ :: _) _ _; first | refine jstore (i := 0) rfl rfl rfl rfl rfl (by first | exact si3 | exact si9 | exact si51 | exact si4 | exact si53 | exact si27 | exact si49) (by first | exact hS | exact .inr hT) ?_ | refine jstore (i := 1) rfl rfl rfl rfl rfl (by first | exact si3 | exact si9 | exact si51 | exact si4 | exact si53 | exact si27 | exact si49) (by first | exact hS | exact .inr hT) ?_ | refine jstores (i := 0) rfl rfl rfl rfl rfl (by first | exact si3 | exact si9 | exact si51 | exact si4 | exact si53 | exact si27 | exact si49) (.inr hT) ?_ | refine jstores (i := 0) rfl rfl rfl rfl rfl (by first | exact si27 | exact si49 | exact si53) (.inr (by assumption)) ?_ | refine jstorep (i := 1) rfl rfl rfl rfl rfl sz30 (.inr (by assumption)) ?_ | refine jstore (i := 0) rfl rfl rfl rfl rfl (by first | exact si3 | exact si4) (.inr (by assumption)) ?_ | refine jstore (i := 1) rfl rfl rfl rfl rfl (by first | exact si3 | exact si4) (.inr (by assumption)) ?_) | (show J _ _ _ _ _ _ (⟨_, .pick _ _ _, _, _, _, _⟩ :: _) _ _; first | refine jy (ypick1 rfl rfl) rfl rfl ?_ | refine jy (ypick0 rfl rfl) rfl rfl ?_) | (show J _ _ _ _ _ _ (⟨_, .unOp _ _ _, _, _, _, _⟩ :: _) _ _; refine jy (ynot rfl rfl) rfl rfl ?_) | (show J _ _ _ _ _ _ (⟨_, .index _ _ _, _, _, _, _⟩ :: _) _ _; refine jy (yidx (c := bt _ _) rfl rfl und9 (by omega) (by omega) rfl) rfl rfl ?_) | (show J _ _ _ _ _ _ (⟨_, .slice _ _ _ _ _, _, _, _, _⟩ :: _) _ _; refine jy (yslice rfl rfl rfl und9 (by omega) (by omega) (by omega) rfl) rfl rfl ?_) | (show J _ _ _ _ _ _ (⟨_, .call _, _, _, _, _⟩ :: _) _ _; first | refine jy (ylens rfl und9) rfl rfl ?_) | (show J _ _ _ _ _ _ (⟨_, .extract _ _, _, _, _, _⟩ :: _) _ _; refine jy (yextractL rfl rfl) rfl rfl ?_)  | (show J _ _ _ _ _ _ (⟨_, .build _ _, _, _, _, _⟩ :: _) _ _; refine jy (ybuild rfl (by first | exact bu0 | exact bu3 _)) rfl rfl ?_)))
    exact post s.size _ _ (by rw [hsk, skipS_end hlt]) rfl
theorem spec_tagSkip.calls (a0 : ByteArray) (a1 : Int) (a2 : ByteArray) (r : Int) (w : World) (h : spec_tagSkip.f a0 a1 a2 = some r) :
    Calls Tryd.prog 35 #[.string a0, .int .i64 a1, .string a2] w fun e w' => e = .returned (.int .i64 r) ∧ Below w.heap.size w w' := by
  unfold spec_tagSkip.f at h
  split at h
  · rename_i hc
    cases h
    have := tagSkip_own a0 a2 a1.toNat (by omega) hc.2.2.1 hc.2.2.2 w
    rw [show ((a1.toNat : Nat) : Int) = a1 by omega] at this
    exact this
  · cases h
end Go.Proofs.YthjddnmfpdcjnaaDoor
