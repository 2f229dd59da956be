/- What the callees of the laws of tags answer, in the small logic's words. -/
import Derived.Test.YthjddnmfpdcjnaaDoorTagsX
import Derived.Test.YthjddnmfpdcjnaaDoorRx
import Derived.Test.YthjddnmfpdcjnaaDoorHas0L6
set_option linter.unusedVariables false
namespace Go.Proofs.YthjddnmfpdcjnaaDoor.LawA
open Go.Rx hiding bt
open Go.RowKit Go.Proofs.YthjddnmfpdcjnaaDoorW.PrintWords Go.Proofs.YthjddnmfpdcjnaaDoor.Lib0 Go.Proofs.YthjddnmfpdcjnaaDoor.Tag0 Go.Proofs.YthjddnmfpdcjnaaDoor.NextW Go.Proofs.YthjddnmfpdcjnaaDoor.PL6 Go.Proofs.YthjddnmfpdcjnaaDoor.Has0L6

theorem hasC (s x : ByteArray) (hs : s.size ≤ 140737488361232) (hx : x.size ≤ 140737488361232) : ∃ b : Bool, (∀ (X : Cx) (m : Mem) w, Cl X m w → Calls Tryd.prog 17 #[.string s, .string x] w fun e w' => e = .returned (.bool b) ∧ Cl X m w') ∧ (b = true ↔ ∃ j, HasAt s x j) := by
  obtain ⟨b, he, h1, h2⟩ := has_tells s x hs hx
  obtain ⟨k, hk⟩ := he.rounds
  refine ⟨b, fun X m => quietC fun w _ => (laws_has.calls k s x b w hk).mono fun e w' ⟨q, hd⟩ => ⟨q, hd.below⟩, h1, fun ⟨j, hj⟩ => ?_⟩
  cases b with
  | true => rfl
  | false => exact absurd hj (h2 rfl j)

theorem zz27 : ((Tryd.prog.info? 27).bind (·.zero)).map (·.cells) = some [.int .i64 0, .int .i64 0, .string ⟨#[]⟩].toArray := by kernel_rfl
theorem gr28 : growB Tryd.prog 28 27 3 32 = true := by kernel_rfl
def stepAll (s : ByteArray) : Step := ⟨0, s.size, ⟨#[]⟩⟩
def zero27 : List Value := [.int .i64 0, .int .i64 0, .string ⟨#[]⟩]
def allCells (s : ByteArray) (n j : Nat) : List Value := (List.replicate j (stepAll s).cells).flatten ++ (List.replicate (n - j) zero27).flatten
theorem allCells_len (s : ByteArray) (n j : Nat) (h : j ≤ n) : (allCells s n j).length = n * 3 := by
  unfold allCells
  simp [stepAll, Step.cells, zero27]
  omega
theorem allCells_set (s : ByteArray) (n j : Nat) (h : j < n) : setL (allCells s n j) (j * 3 + 1) (.int .i64 s.size) = allCells s n (j + 1) := by
  rw [setL_eq]
  unfold allCells
  have hl : ((List.replicate j (stepAll s).cells).flatten).length = j * 3 := by simp [stepAll, Step.cells]
  rw [List.set_append_right _ _ (by omega), hl, show j * 3 + 1 - j * 3 = 1 by omega]
  obtain ⟨k, hk⟩ : ∃ k, n - j = k + 1 := ⟨n - j - 1, by omega⟩
  rw [hk, show n - (j + 1) = k by omega, List.replicate_succ, List.replicate_succ', List.flatten_cons]
  simp [zero27, stepAll, Step.cells]
theorem allCells_nth (s : ByteArray) (n j : Nat) (h : j < n) : nth (allCells s n j) (j * 3 + 1) = some (.int .i64 0) := by
  rw [nth_eq]
  unfold allCells
  have hl : ((List.replicate j (stepAll s).cells).flatten).length = j * 3 := by simp [stepAll, Step.cells]
  rw [List.getElem?_append_right (by omega), hl, show j * 3 + 1 - j * 3 = 1 by omega]
  obtain ⟨k, hk⟩ : ∃ k, n - j = k + 1 := ⟨n - j - 1, by omega⟩
  rw [hk, List.replicate_succ, List.flatten_cons]
  simp [zero27]
theorem Cl.more {X : Cx} {m : Mem} {w w' : World} {g : Nat} {c : List Value} {t : TypeId} (h : Cl X m w) (hb : Below w.heap.size w w') (hg : w.heap.size ≤ g) (hc : w'.heap[g]? = some (.cells c.toArray t (0, 0))) : Cl X ((g, c, t) :: m) w' := by
  have hm := (Rx.Cl.below h hb).1
  refine ⟨⟨?_, fun x hx => ?_⟩, (Rx.Cl.below h hb).2⟩
  · simp only [List.map_cons, List.nodup_cons]
    refine ⟨fun hmem => ?_, hm.ne⟩
    obtain ⟨x, hx, e⟩ := List.mem_map.1 hmem
    have := h.1.lt hx
    omega
  · simp only [List.mem_cons] at hx
    rcases hx with rfl | hx
    · exact hc
    · exact hm.blk x hx
set_option maxHeartbeats 8000000 in
set_option maxRecDepth 100000 in
theorem all_calls (s : ByteArray) (n : Nat) (hs : s.size ≤ 4294967280) (hn : n ≤ 4294967296) (w : World) :
    Calls Tryd.prog 25 #[.string s, .int .i64 n] w fun e w' => ∃ g, w.heap.size ≤ g ∧ e = .returned (.slice (some ⟨g, 0, none⟩) n n) ∧ w'.heap[g]? = some (.cells (allCells s n n).toArray 27 (0, 0)) ∧ Below w.heap.size w w' := by
  refine enter (fun _ => False) 22 [] Tryd.func25 rfl rfl rfl (vs := [.string s, .int .i64 n]) (Has.nil _) ?_
  conv => arg 2; arg 2; whnf
  repeat' (first | (show J _ _ _ _ _ _ (⟨_, .makeSlice _ _ _, _, _, _, _⟩ :: _) _ _; refine jmake (zs := zero27) rfl rfl gr28 zz27 rfl (by omega) (by omega) rfl (fun g hg => ?_)) | first | (show PJ _ (Code.wp _ _ _) _ _; first | refine cseq ?_ | refine rtext ?_ | refine ctrue rfl ?_ | refine cfalse rfl ?_ | refine cskip ?_ | refine cblk ?_ | refine cret ?_ | refine cexit ?_ | refine csplit' rfl (fun hq => ?_) (fun hq => ?_)  | refine rquiet mixed (by kernel_rfl) ?_) | (show PJ _ (Exit.then _ _ _) _ _; first | refine tnorm ?_ | refine tret ?_ | refine texit ?_) | (show PJ _ (Exit.inBlock _ _ _) _ _; first | refine bnorm ?_ | refine bret ?_ | refine bexit ?_ | refine bother rfl ?_) | (show PJ _ (wpList _ _ _ _) _ _; refine jlist ?_) | (show J _ _ _ _ _ _ [] _ _; refine jnil ?_) | (show J _ _ _ _ _ _ (_ :: _) _ _; first | refine js rfl rfl ?_ | (show J _ _ _ _ _ _ (⟨_, .move _, _, _, _, _⟩ :: _) _ _; refine jy (ymove rfl) rfl rfl ?_) | (show J _ _ _ _ _ _ (⟨_, .nilCheck _, _, _, _, _⟩ :: _) _ _; refine jy (ynil rfl) rfl rfl ?_) | (show J _ _ _ _ _ _ (⟨_, .fieldAddr _ _ _, _, _, _, _⟩ :: _) _ _; refine jy (yfield rfl (by first | exact fb27_0 | exact fb27_1 | exact fb27_2 | exact fb32_0 | exact fb32_1 | exact fb32_2 | exact fb53_0 | exact fb53_1 | exact fb53_2 | exact fb53_3) rfl) rfl rfl ?_) | (show J _ _ _ _ _ _ (⟨_, .load _ _, _, _, _, _⟩ :: _) _ _; first | refine jy (yload (i := 0) rfl rfl rfl (by first | exact one3 | exact one9 | exact one4 | exact one51)) rfl rfl ?_ | refine jy (yload (i := 1) rfl rfl rfl (by first | exact one3 | exact one9 | exact one4 | exact one51)) rfl rfl ?_ | refine jy (yloads (i := 0) rfl rfl (by first | exact ag53 | exact ag27 | exact ag32)) rfl rfl ?_ | refine jy (yload (i := 2) rfl rfl rfl (by first | exact one3 | exact one9 | exact one4 | exact one51)) rfl rfl ?_ | refine jy (yload (i := 3) rfl rfl rfl (by first | exact one3 | exact one9 | exact one4 | exact one51)) rfl rfl ?_ | refine jy (yloads (i := 1) rfl rfl (by first | exact ag53 | exact ag27 | exact ag32)) rfl rfl ?_) | (show J _ _ _ _ _ _ (⟨_, .assign _, _, _, _, _⟩ :: _) _ _; refine jy (yassign rfl) rfl rfl ?_) | (show J _ _ _ _ _ _ (⟨_, .binOp _ _ _ _ _, _, _, _, _⟩ :: _) _ _; first  | refine jy (yadd rfl rfl (i64_in (by omega) (by omega))) rfl rfl ?_ | refine jy (ylss rfl rfl (by first | exact decide_eq_true (by omega) | exact decide_eq_false (by omega))) rfl rfl ?_ | refine jlss rfl rfl rfl rfl (fun hq => ?_) (fun hq => ?_) | refine jy (yeql rfl rfl (by first | exact decide_eq_true (by omega) | exact decide_eq_false (by omega))) rfl rfl ?_ | refine jeql rfl rfl rfl rfl (fun hq => ?_) (fun hq => ?_) | refine jy (ygeq rfl rfl (by first | exact decide_eq_true (by omega) | exact decide_eq_false (by omega))) rfl rfl ?_ | refine jgeq rfl rfl rfl rfl (fun hq => ?_) (fun hq => ?_)) | (show J _ _ _ _ _ _ (⟨_, .store _ _ _, _, _, _, _⟩ :: _) _ _; first | refine jstore (i := 0) rfl rfl rfl rfl rfl (by first | exact si3 | exact si9 | exact si51 | exact si4 | exact si53 | exact si27 | exact si49) (by first | exact hS | exact .inr hT) ?_ | refine jstore (i := 1) rfl rfl rfl rfl rfl (by first | exact si3 | exact si9 | exact si51 | exact si4 | exact si53 | exact si27 | exact si49) (by first | exact hS | exact .inr hT) ?_ | refine jstores (i := 0) rfl rfl rfl rfl rfl (by first | exact si3 | exact si9 | exact si51 | exact si4 | exact si53 | exact si27 | exact si49) (.inr hT) ?_ | refine jstores (i := 0) rfl rfl rfl rfl rfl (by first | exact si27 | exact si49 | exact si53) (.inr (by assumption)) ?_ | refine jstorep (i := 1) rfl rfl rfl rfl rfl sz30 (.inr (by assumption)) ?_ | refine jstore (i := 0) rfl rfl rfl rfl rfl (by first | exact si3 | exact si4) (.inr (by assumption)) ?_ | refine jstore (i := 1) rfl rfl rfl rfl rfl (by first | exact si3 | exact si4) (.inr (by assumption)) ?_) | (show J _ _ _ _ _ _ (⟨_, .pick _ _ _, _, _, _, _⟩ :: _) _ _; first | refine jy (ypick1 rfl rfl) rfl rfl ?_ | refine jy (ypick0 rfl rfl) rfl rfl ?_) | (show J _ _ _ _ _ _ (⟨_, .unOp _ _ _, _, _, _, _⟩ :: _) _ _; refine jy (ynot rfl rfl) rfl rfl ?_) | (show J _ _ _ _ _ _ (⟨_, .index _ _ _, _, _, _, _⟩ :: _) _ _; refine jy (yidx (c := bt _ _) rfl rfl und9 (by omega) (by omega) rfl) rfl rfl ?_) | (show J _ _ _ _ _ _ (⟨_, .slice _ _ _ _ _, _, _, _, _⟩ :: _) _ _; refine jy (yslice rfl rfl rfl und9 (by omega) (by omega) (by omega) rfl) rfl rfl ?_) | (show J _ _ _ _ _ _ (⟨_, .call _, _, _, _, _⟩ :: _) _ _; first | refine jy (ylenl rfl und28) rfl rfl ?_ | refine jy (ylens rfl und9) rfl rfl ?_) | (show J _ _ _ _ _ _ (⟨_, .extract _ _, _, _, _, _⟩ :: _) _ _; refine jy (yextractL rfl rfl) rfl rfl ?_) | (show J _ _ _ _ _ _ (⟨_, .alloc _, _, _, _, _⟩ :: _) _ _; first | refine jalloc bz27 rfl (fun T1 hT1 => ?_) | refine jalloc bz32 rfl (fun T2 hT2 => ?_) | refine jalloc bz53 rfl (fun T3 hT3 => ?_) | refine jalloc bz49 rfl (fun g hg => ?_)) | refine jy (ybuild rfl (bu30 _ _ _ _)) rfl rfl ?_ | refine jlit1 rfl rfl rfl gr24 rfl rfl rfl (fun G hG => ?_) | (show J _ _ _ _ _ _ (⟨_, .build _ _, _, _, _, _⟩ :: _) _ _; refine jy (ybuild rfl (by first | exact bu0 | exact bu3 _)) rfl rfl ?_)))
  replace hg : w.heap.size ≤ g := hg
  have e0 : (List.replicate n zero27).flatten = allCells s n 0 := by simp [allCells]
  rw [e0]
  refine fin (f' := [(0, .string s), (5, .slice (some ⟨g, 0, none⟩) n n), (10, .int .i64 n), (11, .int .i64 0)]) (m' := [(g, allCells s n 0, 27)])
    (cloop (ι := Nat) (fun j => [(0, .string s), (5, .slice (some ⟨g, 0, none⟩) n n), (10, .int .i64 n), (11, .int .i64 (j : Nat))]) (fun j => [(g, allCells s n j, 27)]) (fun k j => j ≤ n ∧ k = n - j) n 0 ⟨Nat.zero_le _, rfl⟩ ?_) ⟨rfl, rfl, rfl, rfl, trivial⟩ rfl
  rintro k j ⟨hj, rfl⟩ K hK
  by_cases hlt : j < n
  · have hset := allCells_set s n j hlt
    have hnth := allCells_nth s n j hlt
    repeat' (first
      | (show J _ _ _ _ _ _ (⟨_, .indexAddr _ _ _, _, _, _, _⟩ :: _) _ _; refine jy (yatb (o' := j * 3) rfl rfl und28 sz27 (by omega) (by omega) (by simp)) rfl rfl ?_)
      | (show J _ _ _ _ _ _ (⟨_, .store _ _ _, _, _, _, _⟩ :: _) _ _; refine jstore (i := 0) rfl rfl rfl hnth rfl si3 (.inr hg) ?_)
      | first | (show PJ _ (Code.wp _ _ _) _ _; first | refine cseq ?_ | refine rtext ?_ | refine ctrue rfl ?_ | refine cfalse rfl ?_ | refine cskip ?_ | refine cblk ?_ | refine cret ?_ | refine cexit ?_ | refine csplit' rfl (fun hq => ?_) (fun hq => ?_)  | refine rquiet mixed (by kernel_rfl) ?_) | (show PJ _ (Exit.then _ _ _) _ _; first | refine tnorm ?_ | refine tret ?_ | refine texit ?_) | (show PJ _ (Exit.inBlock _ _ _) _ _; first | refine bnorm ?_ | refine bret ?_ | refine bexit ?_ | refine bother rfl ?_) | (show PJ _ (wpList _ _ _ _) _ _; refine jlist ?_) | (show J _ _ _ _ _ _ [] _ _; refine jnil ?_) | (show J _ _ _ _ _ _ (_ :: _) _ _; first | refine js rfl rfl ?_ | (show J _ _ _ _ _ _ (⟨_, .move _, _, _, _, _⟩ :: _) _ _; refine jy (ymove rfl) rfl rfl ?_) | (show J _ _ _ _ _ _ (⟨_, .nilCheck _, _, _, _, _⟩ :: _) _ _; refine jy (ynil rfl) rfl rfl ?_) | (show J _ _ _ _ _ _ (⟨_, .fieldAddr _ _ _, _, _, _, _⟩ :: _) _ _; refine jy (yfield rfl (by first | exact fb27_0 | exact fb27_1 | exact fb27_2 | exact fb32_0 | exact fb32_1 | exact fb32_2 | exact fb53_0 | exact fb53_1 | exact fb53_2 | exact fb53_3) rfl) rfl rfl ?_) | (show J _ _ _ _ _ _ (⟨_, .load _ _, _, _, _, _⟩ :: _) _ _; first | refine jy (yload (i := 0) rfl rfl rfl (by first | exact one3 | exact one9 | exact one4 | exact one51)) rfl rfl ?_ | refine jy (yload (i := 1) rfl rfl rfl (by first | exact one3 | exact one9 | exact one4 | exact one51)) rfl rfl ?_ | refine jy (yloads (i := 0) rfl rfl (by first | exact ag53 | exact ag27 | exact ag32)) rfl rfl ?_ | refine jy (yload (i := 2) rfl rfl rfl (by first | exact one3 | exact one9 | exact one4 | exact one51)) rfl rfl ?_ | refine jy (yload (i := 3) rfl rfl rfl (by first | exact one3 | exact one9 | exact one4 | exact one51)) rfl rfl ?_ | refine jy (yloads (i := 1) rfl rfl (by first | exact ag53 | exact ag27 | exact ag32)) rfl rfl ?_) | (show J _ _ _ _ _ _ (⟨_, .assign _, _, _, _, _⟩ :: _) _ _; refine jy (yassign rfl) rfl rfl ?_) | (show J _ _ _ _ _ _ (⟨_, .binOp _ _ _ _ _, _, _, _, _⟩ :: _) _ _; first | refine jy (yadd (c := ((j + 1 : Nat) : Int)) rfl rfl (by rw [i64_in (by omega) (by omega)]; omega)) rfl rfl ?_ | refine jy (yadd rfl rfl (i64_in (by omega) (by omega))) rfl rfl ?_ | refine jy (ylss rfl rfl (by first | exact decide_eq_true (by omega) | exact decide_eq_false (by omega))) rfl rfl ?_ | refine jlss rfl rfl rfl rfl (fun hq => ?_) (fun hq => ?_) | refine jy (yeql rfl rfl (by first | exact decide_eq_true (by omega) | exact decide_eq_false (by omega))) rfl rfl ?_ | refine jeql rfl rfl rfl rfl (fun hq => ?_) (fun hq => ?_) | refine jy (ygeq rfl rfl (by first | exact decide_eq_true (by omega) | exact decide_eq_false (by omega))) rfl rfl ?_ | refine jgeq rfl rfl rfl rfl (fun hq => ?_) (fun hq => ?_)) | (show J _ _ _ _ _ _ (⟨_, .store _ _ _, _, _, _, _⟩ :: _) _ _; first | refine jstore (i := 0) rfl rfl rfl rfl rfl (by first | exact si3 | exact si9 | exact si51 | exact si4 | exact si53 | exact si27 | exact si49) (by first | exact hS | exact .inr hT) ?_ | refine jstore (i := 1) rfl rfl rfl rfl rfl (by first | exact si3 | exact si9 | exact si51 | exact si4 | exact si53 | exact si27 | exact si49) (by first | exact hS | exact .inr hT) ?_ | refine jstores (i := 0) rfl rfl rfl rfl rfl (by first | exact si3 | exact si9 | exact si51 | exact si4 | exact si53 | exact si27 | exact si49) (.inr hT) ?_ | refine jstores (i := 0) rfl rfl rfl rfl rfl (by first | exact si27 | exact si49 | exact si53) (.inr (by assumption)) ?_ | refine jstorep (i := 1) rfl rfl rfl rfl rfl sz30 (.inr (by assumption)) ?_ | refine jstore (i := 0) rfl rfl rfl rfl rfl (by first | exact si3 | exact si4) (.inr (by assumption)) ?_ | refine jstore (i := 1) rfl rfl rfl rfl rfl (by first | exact si3 | exact si4) (.inr (by assumption)) ?_) | (show J _ _ _ _ _ _ (⟨_, .pick _ _ _, _, _, _, _⟩ :: _) _ _; first | refine jy (ypick1 rfl rfl) rfl rfl ?_ | refine jy (ypick0 rfl rfl) rfl rfl ?_) | (show J _ _ _ _ _ _ (⟨_, .unOp _ _ _, _, _, _, _⟩ :: _) _ _; refine jy (ynot rfl rfl) rfl rfl ?_) | (show J _ _ _ _ _ _ (⟨_, .index _ _ _, _, _, _, _⟩ :: _) _ _; refine jy (yidx (c := bt _ _) rfl rfl und9 (by omega) (by omega) rfl) rfl rfl ?_) | (show J _ _ _ _ _ _ (⟨_, .slice _ _ _ _ _, _, _, _, _⟩ :: _) _ _; refine jy (yslice rfl rfl rfl und9 (by omega) (by omega) (by omega) rfl) rfl rfl ?_) | (show J _ _ _ _ _ _ (⟨_, .call _, _, _, _, _⟩ :: _) _ _; first | refine jy (ylenl rfl und28) rfl rfl ?_ | refine jy (ylens rfl und9) rfl rfl ?_) | (show J _ _ _ _ _ _ (⟨_, .extract _ _, _, _, _, _⟩ :: _) _ _; refine jy (yextractL rfl rfl) rfl rfl ?_) | (show J _ _ _ _ _ _ (⟨_, .alloc _, _, _, _, _⟩ :: _) _ _; first | refine jalloc bz27 rfl (fun T1 hT1 => ?_) | refine jalloc bz32 rfl (fun T2 hT2 => ?_) | refine jalloc bz53 rfl (fun T3 hT3 => ?_) | refine jalloc bz49 rfl (fun g hg => ?_)) | refine jy (ybuild rfl (bu30 _ _ _ _)) rfl rfl ?_ | refine jlit1 rfl rfl rfl gr24 rfl rfl rfl (fun G hG => ?_) | (show J _ _ _ _ _ _ (⟨_, .build _ _, _, _, _, _⟩ :: _) _ _; refine jy (ybuild rfl (by first | exact bu0 | exact bu3 _)) rfl rfl ?_)))
    rw [hset]
    exact fin (hK (n - (j + 1)) (j + 1) (by omega) ⟨by omega, rfl⟩) ⟨rfl, rfl, rfl, rfl, trivial⟩ rfl
  · obtain rfl : j = n := by omega
    repeat' (first | (show PJ _ (Code.wp _ _ _) _ _; first | refine cseq ?_ | refine rtext ?_ | refine ctrue rfl ?_ | refine cfalse rfl ?_ | refine cskip ?_ | refine cblk ?_ | refine cret ?_ | refine cexit ?_ | refine csplit' rfl (fun hq => ?_) (fun hq => ?_)  | refine rquiet mixed (by kernel_rfl) ?_) | (show PJ _ (Exit.then _ _ _) _ _; first | refine tnorm ?_ | refine tret ?_ | refine texit ?_) | (show PJ _ (Exit.inBlock _ _ _) _ _; first | refine bnorm ?_ | refine bret ?_ | refine bexit ?_ | refine bother rfl ?_) | (show PJ _ (wpList _ _ _ _) _ _; refine jlist ?_) | (show J _ _ _ _ _ _ [] _ _; refine jnil ?_) | (show J _ _ _ _ _ _ (_ :: _) _ _; first | refine js rfl rfl ?_ | (show J _ _ _ _ _ _ (⟨_, .move _, _, _, _, _⟩ :: _) _ _; refine jy (ymove rfl) rfl rfl ?_) | (show J _ _ _ _ _ _ (⟨_, .nilCheck _, _, _, _, _⟩ :: _) _ _; refine jy (ynil rfl) rfl rfl ?_) | (show J _ _ _ _ _ _ (⟨_, .fieldAddr _ _ _, _, _, _, _⟩ :: _) _ _; refine jy (yfield rfl (by first | exact fb27_0 | exact fb27_1 | exact fb27_2 | exact fb32_0 | exact fb32_1 | exact fb32_2 | exact fb53_0 | exact fb53_1 | exact fb53_2 | exact fb53_3) rfl) rfl rfl ?_) | (show J _ _ _ _ _ _ (⟨_, .load _ _, _, _, _, _⟩ :: _) _ _; first | refine jy (yload (i := 0) rfl rfl rfl (by first | exact one3 | exact one9 | exact one4 | exact one51)) rfl rfl ?_ | refine jy (yload (i := 1) rfl rfl rfl (by first | exact one3 | exact one9 | exact one4 | exact one51)) rfl rfl ?_ | refine jy (yloads (i := 0) rfl rfl (by first | exact ag53 | exact ag27 | exact ag32)) rfl rfl ?_ | refine jy (yload (i := 2) rfl rfl rfl (by first | exact one3 | exact one9 | exact one4 | exact one51)) rfl rfl ?_ | refine jy (yload (i := 3) rfl rfl rfl (by first | exact one3 | exact one9 | exact one4 | exact one51)) rfl rfl ?_ | refine jy (yloads (i := 1) rfl rfl (by first | exact ag53 | exact ag27 | exact ag32)) rfl rfl ?_) | (show J _ _ _ _ _ _ (⟨_, .assign _, _, _, _, _⟩ :: _) _ _; refine jy (yassign rfl) rfl rfl ?_) | (show J _ _ _ _ _ _ (⟨_, .binOp _ _ _ _ _, _, _, _, _⟩ :: _) _ _; first | refine jy (yadd (c := ((j + 1 : Nat) : Int)) rfl rfl (by rw [i64_in (by omega) (by omega)]; omega)) rfl rfl ?_ | refine jy (yadd rfl rfl (i64_in (by omega) (by omega))) rfl rfl ?_ | refine jy (ylss rfl rfl (by first | exact decide_eq_true (by omega) | exact decide_eq_false (by omega))) rfl rfl ?_ | refine jlss rfl rfl rfl rfl (fun hq => ?_) (fun hq => ?_) | refine jy (yeql rfl rfl (by first | exact decide_eq_true (by omega) | exact decide_eq_false (by omega))) rfl rfl ?_ | refine jeql rfl rfl rfl rfl (fun hq => ?_) (fun hq => ?_) | refine jy (ygeq rfl rfl (by first | exact decide_eq_true (by omega) | exact decide_eq_false (by omega))) rfl rfl ?_ | refine jgeq rfl rfl rfl rfl (fun hq => ?_) (fun hq => ?_)) | (show J _ _ _ _ _ _ (⟨_, .store _ _ _, _, _, _, _⟩ :: _) _ _; first | refine jstore (i := 0) rfl rfl rfl rfl rfl (by first | exact si3 | exact si9 | exact si51 | exact si4 | exact si53 | exact si27 | exact si49) (by first | exact hS | exact .inr hT) ?_ | refine jstore (i := 1) rfl rfl rfl rfl rfl (by first | exact si3 | exact si9 | exact si51 | exact si4 | exact si53 | exact si27 | exact si49) (by first | exact hS | exact .inr hT) ?_ | refine jstores (i := 0) rfl rfl rfl rfl rfl (by first | exact si3 | exact si9 | exact si51 | exact si4 | exact si53 | exact si27 | exact si49) (.inr hT) ?_ | refine jstores (i := 0) rfl rfl rfl rfl rfl (by first | exact si27 | exact si49 | exact si53) (.inr (by assumption)) ?_ | refine jstorep (i := 1) rfl rfl rfl rfl rfl sz30 (.inr (by assumption)) ?_ | refine jstore (i := 0) rfl rfl rfl rfl rfl (by first | exact si3 | exact si4) (.inr (by assumption)) ?_ | refine jstore (i := 1) rfl rfl rfl rfl rfl (by first | exact si3 | exact si4) (.inr (by assumption)) ?_) | (show J _ _ _ _ _ _ (⟨_, .pick _ _ _, _, _, _, _⟩ :: _) _ _; first | refine jy (ypick1 rfl rfl) rfl rfl ?_ | refine jy (ypick0 rfl rfl) rfl rfl ?_) | (show J _ _ _ _ _ _ (⟨_, .unOp _ _ _, _, _, _, _⟩ :: _) _ _; refine jy (ynot rfl rfl) rfl rfl ?_) | (show J _ _ _ _ _ _ (⟨_, .index _ _ _, _, _, _, _⟩ :: _) _ _; refine jy (yidx (c := bt _ _) rfl rfl und9 (by omega) (by omega) rfl) rfl rfl ?_) | (show J _ _ _ _ _ _ (⟨_, .slice _ _ _ _ _, _, _, _, _⟩ :: _) _ _; refine jy (yslice rfl rfl rfl und9 (by omega) (by omega) (by omega) rfl) rfl rfl ?_) | (show J _ _ _ _ _ _ (⟨_, .call _, _, _, _, _⟩ :: _) _ _; first | refine jy (ylenl rfl und28) rfl rfl ?_ | refine jy (ylens rfl und9) rfl rfl ?_) | (show J _ _ _ _ _ _ (⟨_, .extract _ _, _, _, _, _⟩ :: _) _ _; refine jy (yextractL rfl rfl) rfl rfl ?_) | (show J _ _ _ _ _ _ (⟨_, .alloc _, _, _, _, _⟩ :: _) _ _; first | refine jalloc bz27 rfl (fun T1 hT1 => ?_) | refine jalloc bz32 rfl (fun T2 hT2 => ?_) | refine jalloc bz53 rfl (fun T3 hT3 => ?_) | refine jalloc bz49 rfl (fun g hg => ?_)) | refine jy (ybuild rfl (bu30 _ _ _ _)) rfl rfl ?_ | refine jlit1 rfl rfl rfl gr24 rfl rfl rfl (fun G hG => ?_) | (show J _ _ _ _ _ _ (⟨_, .build _ _, _, _, _, _⟩ :: _) _ _; refine jy (ybuild rfl (by first | exact bu0 | exact bu3 _)) rfl rfl ?_)))
    refine ret1 rfl rfl rfl (fun w' hw' => ⟨g, hg, rfl, hw'.1.at (i := 0) rfl, hw'.2.below (fun k _ h => h) (Nat.le_refl _)⟩)
theorem allC (s : ByteArray) (n : Nat) (hs : s.size ≤ 4294967280) (hn : n ≤ 4294967296) (X : Cx) (m : Mem) : ∀ w, Cl X m w → Calls Tryd.prog 25 #[.string s, .int .i64 n] w fun e w' => ∃ g : Nat, e = .returned (.slice (some ⟨g, 0, none⟩) n n) ∧ Cl X ((g, allCells s n n, 27) :: m) w' ∧ True :=
  fun w hw => (all_calls s n hs hn w).mono fun e w' ⟨g, hg, he, hc, hb⟩ => ⟨g, he, Cl.more hw hb hg hc, trivial⟩

theorem steps_at (l : List Step) : ∀ (j : Nat) (x : Step) (k : Nat) (v : Value), l[j]? = some x → x.cells[k]? = some v → (l.flatMap Step.cells)[j * 3 + k]? = some v := by
  induction l with
  | nil => intro j x k v h; simp at h
  | cons y l ih =>
    intro j x k v h hk
    have hl : y.cells.length = 3 := rfl
    have hk3 : k < 3 := by
      have := (List.getElem?_eq_some_iff.1 hk).1
      simpa [Step.cells] using this
    rw [List.flatMap_cons]
    cases j with
    | zero =>
      simp only [List.getElem?_cons_zero, Option.some.injEq] at h
      subst h
      rw [List.getElem?_append_left (by omega)]
      simpa using hk
    | succ j =>
      simp only [List.getElem?_cons_succ] at h
      rw [List.getElem?_append_right (by omega), hl, show (j + 1) * 3 + k - 3 = j * 3 + k by omega]
      exact ih j x k v h hk
/-- impl.Tags over steps in a known block: what it tells lies in a new row. -/
theorem tagsC (lower : ByteArray → Option ByteArray) (fold : ByteArray → ByteArray → Option Bool) (s : ByteArray) (p : Nat) (l : List Step) (c : Nat) (r : List NextW.Told) (X : Cx) (m : Mem) (i g : Nat) (rest : List Value)
    (hm : m[i]? = some (g, l.flatMap Step.cells ++ rest, 27))
    (hlow : ∀ x r, lower x = some r → ∀ w', Evo X.S X.w0 w' → Calls Tryd.prog 41 #[.string x] w' fun e w'' => e = .returned (.string r) ∧ Below w'.heap.size w' w'')
    (hfold : ∀ x y b, fold x y = some b → ∀ w', Calls Tryd.prog 43 #[.string x, .string y] w' fun e w'' => e = .returned (.bool b) ∧ w'' = w')
    (h3 : s.size ≤ 4294967280) (hl : l.length ≤ 2147483647) (hr : tags lower fold s p l = some r) :
    ∀ w, Cl X m w → Calls Tryd.prog 18 #[.string s, .int .i64 p, .slice (some ⟨g, 0, none⟩) l.length c] w fun e w' => ∃ row : Row, e = .returned (row.val r.length) ∧ Cl X (m ++ row.mem (r.flatMap NextW.Told.cells) 32) w' ∧ row.ok X.w0.heap.size 6 r.length (r.flatMap NextW.Told.cells) := by
  intro w hw
  refine (tags_calls lower fold s p l (some ⟨g, 0, none⟩) c w r (fun j x hx => ⟨_, rfl, fun k v hk => ?_⟩) (fun x r hx w' hw' => hlow x r hx w' (hw.2.trans (hw'.mono (fun _ _ h => h.elim)))) hfold h3 hl hr).mono ?_
  · have hadd : ((⟨g, 0, none⟩ : Addr).add (j * 3)).add k = ⟨g, j * 3 + k, none⟩ := by
      unfold Addr.add
      split <;> split <;> simp_all
    rw [hadd]
    refine hw.1.cell hm ?_
    rw [nth_eq, List.getElem?_append_left ((List.getElem?_eq_some_iff.1 (steps_at l j x k v hx hk)).1)]
    exact steps_at l j x k v hx hk
  · rintro e w' ⟨v, rfl, ho, hb⟩
    obtain ⟨row, rfl, hok, hmem⟩ := Row.of_owns ho
    refine ⟨row, rfl, ?_, ?_⟩
    · cases row with
      | nil => simpa [Row.mem] using Rx.Cl.below hw hb
      | «at» g' cap rr =>
        have := Cl.more (m := m) hw hb hok.1 (hmem _ (List.mem_singleton.2 rfl))
        refine ⟨⟨?_, fun x hx => ?_⟩, this.2⟩
        · have h1 := this.1.ne
          rw [List.map_append]
          simp only [List.map_cons, List.nodup_cons, Row.mem, List.map_nil] at h1 ⊢
          rw [List.nodup_append]
          exact ⟨h1.2, by simp, fun a ha b hb' => by simp only [List.mem_singleton] at hb'; subst hb'; rintro rfl; exact h1.1 ha⟩
        · simp only [List.mem_append] at hx
          rcases hx with hx | hx
          · exact this.1.blk x (List.mem_cons_of_mem _ hx)
          · exact hmem x hx
    · cases row with
      | nil => exact hok
      | «at» g' cap rr => exact ⟨Nat.le_trans hw.2.size hok.1, hok.2⟩
end Go.Proofs.YthjddnmfpdcjnaaDoor.LawA
