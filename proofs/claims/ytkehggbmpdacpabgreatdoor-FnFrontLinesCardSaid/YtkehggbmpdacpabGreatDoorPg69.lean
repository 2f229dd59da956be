/- Pages: a page that has items of its own, put behind. -/
import Derived.Test.YtkehggbmpdacpabGreatDoorPg68
set_option maxRecDepth 100000
set_option linter.unusedVariables false
set_option linter.unusedSimpArgs false
set_option linter.unusedSectionVars false
namespace Go.Proofs.YtkehggbmpdacpabGreatDoor.Pg
open Go.Rx hiding bt
open Go.RowKit Go.Proofs.YtkehggbmpdacpabGreatDoor.Dec0 Go.Proofs.YtkehggbmpdacpabGreatDoor.Lex0
theorem bo18 : bodyB Tryz.prog 30 = true := by kernel_rfl
theorem src_rowN {X : Cx} {m : Mem} {r : Row} {n B sz : Nat} {xs : List Value} {e : TypeId} (hm : ∀ x ∈ r.mem xs e, x ∈ m) (hok : r.ok B sz n xs) : ∃ A c, r.val n = .slice A n c ∧ Go.Rx.Src X m A xs := by
  cases r with
  | nil =>
    obtain ⟨h1, h2⟩ := hok
    subst h1
    subst h2
    exact ⟨none, 0, rfl, src_nil _ _ _⟩
  | «at» g cap rr =>
    refine ⟨some ⟨g, 0, none⟩, cap, rfl, fun w hw j u hj => ⟨_, rfl, ?_⟩⟩
    have hb : w.heap[g]? = some (.cells (xs ++ rr).toArray e (0, 0)) := hw.1.blk (g, xs ++ rr, e) (hm _ (by simp [Row.mem]))
    rw [add_lit]
    simp only [World.cell?, hb]
    rw [List.getElem?_toArray, List.getElem?_append_left (List.getElem?_eq_some_iff.1 hj).1, hj]
    simp
def _root_.Go.Proofs.YtkehggbmpdacpabGreatDoor.Lex0.Book.behind (b : Book) (u : T) (l : List Ti) : Book := ⟨b.s ++ u, b.l ++ l.map (mvTi b.s.length)⟩
theorem bsz_behind (B : Book) (u : T) (l : List Ti) : bsz (B.behind u l) = bsz B + u.length + l.length := by
  show (B.s ++ u).length + (B.l ++ l.map _).length = _
  simp only [List.length_append, List.length_map, bsz]
  omega
theorem cl_moved {X : Cx} {m : Mem} {v : Value} {l : List Ti} {k : Nat} (hv : ∀ w, Cl X m w → TisAt w v l) (hln : l.length ≤ 1000000000) (hk0 : k ≤ 1099511627776) (hp : ∀ x ∈ l, x.pos ≤ 1099511627776) :
    ∀ w, Cl X m w → Calls Tryz.prog 43 #[v, .int .i64 (k : Nat)] w fun e w' => ∃ r : Row, e = .returned (r.val l.length) ∧ Cl X (m ++ r.mem (mvC k l) 59) w' ∧ r.ok 0 5 l.length (mvC k l) := fun w hw =>
  (moved_calls (hv w hw) hln hk0 hp).mono fun e w' ⟨r, e1, e2, e3, e4⟩ => ⟨r, e1, ⟨(cl_row hw e4 e2 e3).1.perm List.perm_append_comm, (cl_row hw e4 e2 e3).2⟩, row_ok0 e3⟩
theorem mvC_len (k : Nat) (l : List Ti) : (mvC k l).length = l.length * 5 := by rw [mvC, tiCs_len, List.length_map, Nat.mul_comm]
theorem mvC_one (k : Nat) (l : List Ti) : ∀ u ∈ mvC k l, u.oneCell' = true := fun u hu => by
  obtain ⟨t, _, h⟩ := List.mem_flatMap.1 hu
  exact tiC_one t u h
set_option maxHeartbeats 1000000 in
theorem behind_calls {X : Cx} {g : Nat} (hg : X.may g) {s : ByteArray} {r : Row} {l0 l : List Ti} {E : Mem} {v : Value} (hr : BkOk X r l0) (hn : l0.length ≤ 1000000000) (hv : ∀ X' w, Cl X' (bkM g s r l0 E) w → TisAt w v l) (hln : l.length ≤ 1000000000) (hp : ∀ x ∈ l, x.pos ≤ 1099511627776) (hk0 : s.size ≤ 1099511627776) {u : ByteArray} (hsz : s.size + u.size ≤ 9223372036854775807) :
    ∀ w, Cl X (bkM g s r l0 E) w → Calls Tryz.prog 30 #[.pointer (some ⟨g, 0, none⟩), .string u, v] w fun e w' => ∃ r' : Row, e = .returned (.tuple #[]) ∧ Cl X (bkM g (s ++ u) r' (l0 ++ l.map (mvTi s.size)) E) w' ∧ BkOk X r' (l0 ++ l.map (mvTi s.size)) := by
  intro w hw
  replace hv := hv (X.sub 29 w)
  unfold bkM at hw hv
  refine enterC 29 hw Tryz.func30 rfl rfl (vs := [.pointer (some ⟨g, 0, none⟩), .string u, v]) rfl ?_
  replace hg := Cx.may_sub (n := 29) (w := w) hg
  replace hr := hr.sub 29 hw
  have e1 : (l0 ++ l.map (mvTi s.size)).length = l0.length + l.length := by simp
  have e2 : (l0 ++ l.map (mvTi s.size)).flatMap tiC = l0.flatMap tiC ++ mvC s.size l := by rw [List.flatMap_append]
  have hperm : ∀ (x : Nat × List Value × Bk) (r1 : Mem), List.Perm (x :: (r.mem (l0.flatMap tiC) 59 ++ E) ++ r1) ([x] ++ (E ++ r1) ++ r.mem (l0.flatMap tiC) 59) := fun x r1 => by
    rw [List.cons_append, List.append_assoc]
    exact perm_row [x] (r.mem (l0.flatMap tiC) 59) (E ++ r1)
  conv => arg 2; arg 2; whnf
  repeat' (first | first | (show PJ _ (Code.wp _ _ _) _ _; first | refine cseq ?_ | refine rtext ?_ | (show PJ _ (Code.wp _ (Code.region 0 _ true) _) _ _; refine ranyT 13 [bkB g s (r.val l0.length)] mixed ?_)) | refine jnil ?_ | (first | refine jmv rfl rfl rfl ?_ | refine jy (ynil rfl) rfl rfl ?_ | (show Jo _ (.fieldAddr _ _ _); refine jy (yfield rfl fb29_0 rfl) rfl rfl ?_) | (show Jo _ (.load _ _); refine jy (yload (i := 0) rfl rfl rfl one9') rfl rfl ?_) | (show Jo _ (.binOp _ _ _ _ _); ((show Jo _ (.binOp .add _ _ _ _); refine jy (ysadd rfl rfl hsz rfl) rfl rfl ?_))) | (show Jo _ (.store _ _ _); first | refine jstore (i := 0) rfl rfl rfl rfl (rowv_one _ _) si24 hg ?_ | refine jstore (i := 0) rfl rfl rfl rfl rfl si9' hg ?_) | (show Jo _ (.call _); first | (show Jo _ (.call ⟨.value (.func 43), _, _⟩); refine jcall (ι := Row) (v := fun r1 => r1.val l.length) (m' := fun r1 => bkB g s (r.val l0.length) :: (r.mem (l0.flatMap tiC) 59 ++ E) ++ r1.mem (mvC s.size l) 59) (fun r1 => r1.ok 0 5 l.length (mvC s.size l)) bo36 rfl rfl rfl (cl_moved hv hln hk0 hp) (fun r1 h1 => ?_); obtain ⟨A1, c1, hA1, hs1⟩ := src_rowN (X := ⟨29, X.D, fun g => X.S g ∨ X.w0.heap.size ≤ g, w⟩) (m := bkB g s (r.val l0.length) :: (r.mem (l0.flatMap tiC) 59 ++ E) ++ r1.mem (mvC s.size l) 59) (e := 59) (fun x hx => List.mem_append_right _ hx) h1) | (show Jo _ (.call ⟨.builtin .append, _, _⟩); refine jappendP (k := l.length) (r := r) (B := 0) (n := l0.length) (xs := l0.flatMap tiC) (news := mvC s.size l) (A := A1) (cx := c1) ([_] ++ (E ++ r1.mem (mvC s.size l) 59)) (fun r' => [_] ++ (r'.mem (l0.flatMap tiC ++ mvC s.size l) 59 ++ (E ++ r1.mem (mvC s.size l) 59))) (hperm _ _) (fun r' => (perm_row [_] _ _).symm) rfl (Eq.trans rfl (congrArg some hA1)) hs1 (mvC_len _ _) (mvC_one _ _) hr.ok (Nat.zero_le _) hr.may gr24 (by omega) (by simp only [maxLen]; omega) (by omega) rfl (fun r' hr' hmr' => ?_)))) | first | (show JT _ _ _ _ _ _ [] _ _; refine jtnil ?_) | (first | (show JTo _ (.move _); refine jty (ymove rfl) rfl rfl ?_) | (show JTo _ (.nilCheck _); refine jty (ynil rfl) rfl rfl ?_) | (show JTo _ (.fieldAddr _ _ _); refine jty (yfield rfl (by first | exact fb29_0 | exact fb29_1) rfl) rfl rfl ?_) | (show JTo _ (.load _ _); refine jty (yload (i := 0) rfl rfl rfl one9') rfl rfl ?_) | (show JTo _ (.call _); ((show JTo _ (.call ⟨.builtin .len, _, _⟩); refine jty (ylens rfl Lw.und9) rfl rfl ?_)))) | first | (show PJ _ (WKeep _ _ _) _ _; first | refine jas (fun _ h => h.less (List.nil_sublist _)) ?_ | refine jas (fun _ h => h.less (List.Sublist.cons_cons _ (List.nil_sublist _))) ?_) | (show PJ _ (WIf _ _ _) _ _; refine jaw ?_) | (show PJ _ (WAnyT _ _ _ _ _ _ _ _) _ _; first | refine jaqT (n := 13) (g' := 5) (D := []) [0, 1, 2, 3, 4, 5, 6, 7, 8, 9, 10] rfl (fun _ h => h.less (List.Sublist.cons_cons _ (List.nil_sublist _))) (by kernel_rfl) (by kernel_rfl) (by kernel_rfl) (by kernel_rfl) (by kernel_rfl) rfl (fun _ d _ _ _ h => by cases d <;> exact h) rfl ?_ | refine ja1T (n := 13) (g' := 4) (D := [0, 1, 2, 3, 4, 5, 6, 7, 8, 9, 10]) 11 rfl rfl (by kernel_rfl) (by kernel_rfl) rfl ?_ | refine ja1T (n := 13) (g' := 3) (D := [0, 1, 2, 3, 4, 5, 6, 7, 8, 9, 10, 11]) 12 rfl rfl (by kernel_rfl) (by kernel_rfl) rfl ?_ | refine jfullT (D := [0, 1, 2, 3, 4, 5, 6, 7, 8, 9, 10, 11, 12]) (by kernel_rfl) ?_) | (show PJ _ (WAny _ _ _ _ _ _ _) _ _; first | refine jaq (g' := 1) (D := [0, 1, 2, 3, 4, 5, 6, 7, 8, 9, 10, 11, 12]) [13, 14] rfl (fun _ h => h.less (List.nil_sublist _)) (by kernel_rfl) (by kernel_rfl) rfl (fun _ d _ _ _ h => by cases d <;> exact h) rfl ?_ | refine ja1 (g' := 0) (D := [0, 1, 2, 3, 4, 5, 6, 7, 8, 9, 10, 11, 12, 13, 14]) 15 rfl rfl (by kernel_rfl) rfl ?_ | refine jadone rfl (by kernel_rfl) ?_))
  refine end0 rfl rfl (fun w' hw' => ⟨r', rfl, ?_, BkOk.up hw ⟨by rw [e1, e2]; exact hr', hmr'⟩⟩)
  unfold bkM
  rw [e1, e2]
  exact (hw.up hw').less (List.Sublist.cons_cons _ (List.Sublist.append_left (List.sublist_append_left _ _) _))
end Go.Proofs.YtkehggbmpdacpabGreatDoor.Pg
