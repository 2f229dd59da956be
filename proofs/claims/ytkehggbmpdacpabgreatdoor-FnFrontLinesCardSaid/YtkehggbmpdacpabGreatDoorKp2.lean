/- The page laws: texts that all of them use, joined (part 2): PgD, AnyZ, Pg2, Pg3. -/
import Derived.Test.YtkehggbmpdacpabGreatDoorKp0
import Derived.Test.YtkehggbmpdacpabGreatDoorKp1
set_option maxRecDepth 100000
set_option linter.unusedVariables false
set_option linter.unusedSimpArgs false
set_option linter.unusedSectionVars false
namespace Go.Proofs.YtkehggbmpdacpabGreatDoor.Pg
open Go.Rx hiding bt
open Go.RowKit Go.Proofs.YtkehggbmpdacpabGreatDoor.Dec0 Go.Proofs.YtkehggbmpdacpabGreatDoor.Lex0
theorem gr59 : growB Tryz.prog 62 5 1 1 = true := by kernel_rfl
def fB (g : Nat) (p : T) : Nat × List Value × Bk := (g, bytesL p, .r 5)
def fV (g : Nat) (p : T) : Value := .slice (some ⟨g, 0, none⟩) p.length p.length
theorem fresh_byt {g : Nat} {p : T} {m : Mem} {w : World} (hw : Has m w) (hm : fB g p ∈ m) : Byt w (fV g p) p :=
  Byt.cells hw hm (.inl rfl) (Nat.le_refl _) (fun j x hx => by rw [Nat.zero_add]; exact bytesL_get hx) rfl
def Fresh (X : Cx) (P : Program) (k : Nat) (p : T) : Prop := ∀ (m : Mem) w, Cl X m w → Calls P k #[] w fun e w' => ∃ g, e = .returned (fV g p) ∧ Cl X (fB g p :: m) w' ∧ X.may g
theorem bo95 : bodyB Tryz.prog 75 = true := by kernel_rfl
theorem fresh95 (X : Cx) : Fresh X Tryz.prog 75 [43, 43, 43] := by
  intro m w hw
  refine enterC 3 hw Tryz.func75 rfl rfl (vs := []) rfl ?_
  conv => arg 2; arg 2; whnf
  repeat' (first | refine cseq ?_ | refine rtext ?_ | refine cret ?_ | refine jnil ?_ | (first | refine jas_ rfl rfl rfl ?_ | (show Jo _ (.buildSlice 62 _ _); refine jlitN (n := 3) (vs := bytesL [43, 43, 43]) rfl rfl rfl rfl gr59 rfl rfl rfl rfl (fun g hT => ?_)) | (show Jo _ (.convert _ _ _); refine jmark (i := 0) rfl rfl und59 und5 (.inr hT) rfl ?_)))
  exact ret1 rfl rfl rfl (fun w' hw' => ⟨g, rfl, hw.up hw', Cx.may_up hw (.inr hT)⟩)
theorem bo96 : bodyB Tryz.prog 76 = true := by kernel_rfl
theorem fresh96 (X : Cx) : Fresh X Tryz.prog 76 [45, 45, 45] := by
  intro m w hw
  refine enterC 3 hw Tryz.func76 rfl rfl (vs := []) rfl ?_
  conv => arg 2; arg 2; whnf
  repeat' (first | refine cseq ?_ | refine rtext ?_ | refine cret ?_ | refine jnil ?_ | (first | refine jas_ rfl rfl rfl ?_ | (show Jo _ (.buildSlice 62 _ _); refine jlitN (n := 3) (vs := bytesL [45, 45, 45]) rfl rfl rfl rfl gr59 rfl rfl rfl rfl (fun g hT => ?_)) | (show Jo _ (.convert _ _ _); refine jmark (i := 0) rfl rfl und59 und5 (.inr hT) rfl ?_)))
  exact ret1 rfl rfl rfl (fun w' hw' => ⟨g, rfl, hw.up hw', Cx.may_up hw (.inr hT)⟩)
theorem bo118 : bodyB Tryz.prog 96 = true := by kernel_rfl
theorem fresh118 (X : Cx) : Fresh X Tryz.prog 96 [35, 43] := by
  intro m w hw
  refine enterC 3 hw Tryz.func96 rfl rfl (vs := []) rfl ?_
  conv => arg 2; arg 2; whnf
  repeat' (first | refine cseq ?_ | refine rtext ?_ | refine cret ?_ | refine jnil ?_ | (first | refine jas_ rfl rfl rfl ?_ | (show Jo _ (.buildSlice 62 _ _); refine jlitN (n := 2) (vs := bytesL [35, 43]) rfl rfl rfl rfl gr59 rfl rfl rfl rfl (fun g hT => ?_)) | (show Jo _ (.convert _ _ _); refine jmark (i := 0) rfl rfl und59 und5 (.inr hT) rfl ?_)))
  exact ret1 rfl rfl rfl (fun w' hw' => ⟨g, rfl, hw.up hw', Cx.may_up hw (.inr hT)⟩)
theorem bo119 : bodyB Tryz.prog 97 = true := by kernel_rfl
theorem fresh119 (X : Cx) : Fresh X Tryz.prog 97 [35, 32, 109, 111, 114, 101] := by
  intro m w hw
  refine enterC 3 hw Tryz.func97 rfl rfl (vs := []) rfl ?_
  conv => arg 2; arg 2; whnf
  repeat' (first | refine cseq ?_ | refine rtext ?_ | refine cret ?_ | refine jnil ?_ | (first | refine jas_ rfl rfl rfl ?_ | (show Jo _ (.buildSlice 62 _ _); refine jlitN (n := 6) (vs := bytesL [35, 32, 109, 111, 114, 101]) rfl rfl rfl rfl gr59 rfl rfl rfl rfl (fun g hT => ?_)) | (show Jo _ (.convert _ _ _); refine jmark (i := 0) rfl rfl und59 und5 (.inr hT) rfl ?_)))
  exact ret1 rfl rfl rfl (fun w' hw' => ⟨g, rfl, hw.up hw', Cx.may_up hw (.inr hT)⟩)
theorem bo122 : bodyB Tryz.prog 100 = true := by kernel_rfl
theorem fresh122 (X : Cx) : Fresh X Tryz.prog 100 [60, 33, 45, 45, 109, 111, 114, 101, 45, 45, 62] := by
  intro m w hw
  refine enterC 3 hw Tryz.func100 rfl rfl (vs := []) rfl ?_
  conv => arg 2; arg 2; whnf
  repeat' (first | refine cseq ?_ | refine rtext ?_ | refine cret ?_ | refine jnil ?_ | (first | refine jas_ rfl rfl rfl ?_ | (show Jo _ (.buildSlice 62 _ _); refine jlitN (n := 11) (vs := bytesL [60, 33, 45, 45, 109, 111, 114, 101, 45, 45, 62]) rfl rfl rfl rfl gr59 rfl rfl rfl rfl (fun g hT => ?_)) | (show Jo _ (.convert _ _ _); refine jmark (i := 0) rfl rfl und59 und5 (.inr hT) rfl ?_)))
  exact ret1 rfl rfl rfl (fun w' hw' => ⟨g, rfl, hw.up hw', Cx.may_up hw (.inr hT)⟩)
theorem bo136 : bodyB Tryz.prog 114 = true := by kernel_rfl
theorem fresh136 (X : Cx) : Fresh X Tryz.prog 114 [123, 123] := by
  intro m w hw
  refine enterC 3 hw Tryz.func114 rfl rfl (vs := []) rfl ?_
  conv => arg 2; arg 2; whnf
  repeat' (first | refine cseq ?_ | refine rtext ?_ | refine cret ?_ | refine jnil ?_ | (first | refine jas_ rfl rfl rfl ?_ | (show Jo _ (.buildSlice 62 _ _); refine jlitN (n := 2) (vs := bytesL [123, 123]) rfl rfl rfl rfl gr59 rfl rfl rfl rfl (fun g hT => ?_)) | (show Jo _ (.convert _ _ _); refine jmark (i := 0) rfl rfl und59 und5 (.inr hT) rfl ?_)))
  exact ret1 rfl rfl rfl (fun w' hw' => ⟨g, rfl, hw.up hw', Cx.may_up hw (.inr hT)⟩)
theorem bo140 : bodyB Tryz.prog 118 = true := by kernel_rfl
theorem fresh140 (X : Cx) : Fresh X Tryz.prog 118 [123, 123, 37] := by
  intro m w hw
  refine enterC 3 hw Tryz.func118 rfl rfl (vs := []) rfl ?_
  conv => arg 2; arg 2; whnf
  repeat' (first | refine cseq ?_ | refine rtext ?_ | refine cret ?_ | refine jnil ?_ | (first | refine jas_ rfl rfl rfl ?_ | (show Jo _ (.buildSlice 62 _ _); refine jlitN (n := 3) (vs := bytesL [123, 123, 37]) rfl rfl rfl rfl gr59 rfl rfl rfl rfl (fun g hT => ?_)) | (show Jo _ (.convert _ _ _); refine jmark (i := 0) rfl rfl und59 und5 (.inr hT) rfl ?_)))
  exact ret1 rfl rfl rfl (fun w' hw' => ⟨g, rfl, hw.up hw', Cx.may_up hw (.inr hT)⟩)
theorem bo152 : bodyB Tryz.prog 130 = true := by kernel_rfl
theorem fresh152 (X : Cx) : Fresh X Tryz.prog 130 [123, 123, 60] := by
  intro m w hw
  refine enterC 3 hw Tryz.func130 rfl rfl (vs := []) rfl ?_
  conv => arg 2; arg 2; whnf
  repeat' (first | refine cseq ?_ | refine rtext ?_ | refine cret ?_ | refine jnil ?_ | (first | refine jas_ rfl rfl rfl ?_ | (show Jo _ (.buildSlice 62 _ _); refine jlitN (n := 3) (vs := bytesL [123, 123, 60]) rfl rfl rfl rfl gr59 rfl rfl rfl rfl (fun g hT => ?_)) | (show Jo _ (.convert _ _ _); refine jmark (i := 0) rfl rfl und59 und5 (.inr hT) rfl ?_)))
  exact ret1 rfl rfl rfl (fun w' hw' => ⟨g, rfl, hw.up hw', Cx.may_up hw (.inr hT)⟩)
theorem bo156 : bodyB Tryz.prog 134 = true := by kernel_rfl
theorem fresh156 (X : Cx) : Fresh X Tryz.prog 134 [47, 42] := by
  intro m w hw
  refine enterC 3 hw Tryz.func134 rfl rfl (vs := []) rfl ?_
  conv => arg 2; arg 2; whnf
  repeat' (first | refine cseq ?_ | refine rtext ?_ | refine cret ?_ | refine jnil ?_ | (first | refine jas_ rfl rfl rfl ?_ | (show Jo _ (.buildSlice 62 _ _); refine jlitN (n := 2) (vs := bytesL [47, 42]) rfl rfl rfl rfl gr59 rfl rfl rfl rfl (fun g hT => ?_)) | (show Jo _ (.convert _ _ _); refine jmark (i := 0) rfl rfl und59 und5 (.inr hT) rfl ?_)))
  exact ret1 rfl rfl rfl (fun w' hw' => ⟨g, rfl, hw.up hw', Cx.may_up hw (.inr hT)⟩)
theorem bo167 : bodyB Tryz.prog 145 = true := by kernel_rfl
theorem fresh167 (X : Cx) : Fresh X Tryz.prog 145 [42, 47] := by
  intro m w hw
  refine enterC 3 hw Tryz.func145 rfl rfl (vs := []) rfl ?_
  conv => arg 2; arg 2; whnf
  repeat' (first | refine cseq ?_ | refine rtext ?_ | refine cret ?_ | refine jnil ?_ | (first | refine jas_ rfl rfl rfl ?_ | (show Jo _ (.buildSlice 62 _ _); refine jlitN (n := 2) (vs := bytesL [42, 47]) rfl rfl rfl rfl gr59 rfl rfl rfl rfl (fun g hT => ?_)) | (show Jo _ (.convert _ _ _); refine jmark (i := 0) rfl rfl und59 und5 (.inr hT) rfl ?_)))
  exact ret1 rfl rfl rfl (fun w' hw' => ⟨g, rfl, hw.up hw', Cx.may_up hw (.inr hT)⟩)
theorem bo180 : bodyB Tryz.prog 158 = true := by kernel_rfl
theorem fresh180 (X : Cx) : Fresh X Tryz.prog 158 [37, 125, 125] := by
  intro m w hw
  refine enterC 3 hw Tryz.func158 rfl rfl (vs := []) rfl ?_
  conv => arg 2; arg 2; whnf
  repeat' (first | refine cseq ?_ | refine rtext ?_ | refine cret ?_ | refine jnil ?_ | (first | refine jas_ rfl rfl rfl ?_ | (show Jo _ (.buildSlice 62 _ _); refine jlitN (n := 3) (vs := bytesL [37, 125, 125]) rfl rfl rfl rfl gr59 rfl rfl rfl rfl (fun g hT => ?_)) | (show Jo _ (.convert _ _ _); refine jmark (i := 0) rfl rfl und59 und5 (.inr hT) rfl ?_)))
  exact ret1 rfl rfl rfl (fun w' hw' => ⟨g, rfl, hw.up hw', Cx.may_up hw (.inr hT)⟩)
theorem bo181 : bodyB Tryz.prog 159 = true := by kernel_rfl
theorem fresh181 (X : Cx) : Fresh X Tryz.prog 159 [62, 125, 125] := by
  intro m w hw
  refine enterC 3 hw Tryz.func159 rfl rfl (vs := []) rfl ?_
  conv => arg 2; arg 2; whnf
  repeat' (first | refine cseq ?_ | refine rtext ?_ | refine cret ?_ | refine jnil ?_ | (first | refine jas_ rfl rfl rfl ?_ | (show Jo _ (.buildSlice 62 _ _); refine jlitN (n := 3) (vs := bytesL [62, 125, 125]) rfl rfl rfl rfl gr59 rfl rfl rfl rfl (fun g hT => ?_)) | (show Jo _ (.convert _ _ _); refine jmark (i := 0) rfl rfl und59 und5 (.inr hT) rfl ?_)))
  exact ret1 rfl rfl rfl (fun w' hw' => ⟨g, rfl, hw.up hw', Cx.may_up hw (.inr hT)⟩)
theorem bo189 : bodyB Tryz.prog 167 = true := by kernel_rfl
theorem fresh189 (X : Cx) : Fresh X Tryz.prog 167 [105, 110, 108, 105, 110, 101, 32] := by
  intro m w hw
  refine enterC 3 hw Tryz.func167 rfl rfl (vs := []) rfl ?_
  conv => arg 2; arg 2; whnf
  repeat' (first | refine cseq ?_ | refine rtext ?_ | refine cret ?_ | refine jnil ?_ | (first | refine jas_ rfl rfl rfl ?_ | (show Jo _ (.buildSlice 62 _ _); refine jlitN (n := 7) (vs := bytesL [105, 110, 108, 105, 110, 101, 32]) rfl rfl rfl rfl gr59 rfl rfl rfl rfl (fun g hT => ?_)) | (show Jo _ (.convert _ _ _); refine jmark (i := 0) rfl rfl und59 und5 (.inr hT) rfl ?_)))
  exact ret1 rfl rfl rfl (fun w' hw' => ⟨g, rfl, hw.up hw', Cx.may_up hw (.inr hT)⟩)
theorem bo155 : bodyB Tryz.prog 133 = true := by kernel_rfl
theorem cur155 {X : Cx} {H : Hd} {E : Mem} (l : LS) (md : Bool) (ht : l.lt = if md then 10 else 8) : ∀ w, Cl X (lB H l :: E) w → Calls Tryz.prog 133 #[pL H] w fun e w' => ∃ g, e = .returned (fV g (if md then lmd else lno)) ∧ Cl X (fB g (if md then lmd else lno) :: lB H l :: E) w' ∧ X.may g := by
  intro w hw
  refine enterC 11 hw Tryz.func133 rfl rfl (vs := [pL H]) rfl ?_
  conv => arg 2; arg 2; whnf
  cases md
  · have ht' : (l.lt : Int) ≠ 10 := by rw [ht]; decide
    repeat' (first | refine cseq ?_ | refine rtext ?_ | refine cfalse rfl ?_ | refine cskip ?_ | refine cret ?_ | refine jnil ?_ | (first | refine jmv rfl rfl rfl ?_ | refine jy (ynil rfl) rfl rfl ?_ | (show Jo _ (.fieldAddr _ _ _); refine jy (yfield rfl (by first | exact fb110_10 | exact fb108_0) rfl) rfl rfl ?_) | (show Jo _ (.load _ _); refine jy (yload (i := 0) rfl rfl rfl one85) rfl rfl ?_) | refine jas_ rfl rfl rfl ?_ | (show Jo _ (.binOp _ _ _ _ _); refine jy (yeql rfl rfl (by (exact decide_eq_false (by omega)))) rfl rfl ?_) | (show Jo _ (.call _); ((show Jo _ (.call ⟨.value (.func 130), _, _⟩); refine jcall (ι := Nat) (v := fun g => fV g lno) (m' := fun g => fB g lno :: lB H l :: E) (fun g => (X.sub 11 w).may g) bo152 rfl rfl rfl (fun w' hw' => fresh152 _ _ w' hw') (fun g hg => ?_))))))
    exact ret1 rfl rfl rfl (fun w' hw' => ⟨g, rfl, hw.up hw', Cx.may_up hw hg⟩)
  · have ht' : (l.lt : Int) = 10 := by rw [ht]; decide
    repeat' (first | refine cseq ?_ | refine rtext ?_ | refine ctrue rfl ?_ | refine cret ?_ | refine tret ?_ | refine jnil ?_ | (first | refine jmv rfl rfl rfl ?_ | refine jy (ynil rfl) rfl rfl ?_ | (show Jo _ (.fieldAddr _ _ _); refine jy (yfield rfl (by first | exact fb110_10 | exact fb108_0) rfl) rfl rfl ?_) | (show Jo _ (.load _ _); refine jy (yload (i := 0) rfl rfl rfl one85) rfl rfl ?_) | refine jas_ rfl rfl rfl ?_ | (show Jo _ (.binOp _ _ _ _ _); refine jy (yeql rfl rfl (by (exact decide_eq_true (by omega)))) rfl rfl ?_) | (show Jo _ (.call _); ((show Jo _ (.call ⟨.value (.func 118), _, _⟩); refine jcall (ι := Nat) (v := fun g => fV g lmd) (m' := fun g => fB g lmd :: lB H l :: E) (fun g => (X.sub 11 w).may g) bo140 rfl rfl rfl (fun w' hw' => fresh140 _ _ w' hw') (fun g hg => ?_))))))
    exact ret1 rfl rfl rfl (fun w' hw' => ⟨g, rfl, hw.up hw', Cx.may_up hw hg⟩)
theorem bo168 : bodyB Tryz.prog 146 = true := by kernel_rfl
theorem cur168 {X : Cx} {H : Hd} {E : Mem} (l : LS) (md : Bool) (ht : l.rt = if md then 11 else 9) : ∀ w, Cl X (lB H l :: E) w → Calls Tryz.prog 146 #[pL H] w fun e w' => ∃ g, e = .returned (fV g (rd md)) ∧ Cl X (fB g (rd md) :: lB H l :: E) w' ∧ X.may g := by
  intro w hw
  refine enterC 11 hw Tryz.func146 rfl rfl (vs := [pL H]) rfl ?_
  conv => arg 2; arg 2; whnf
  cases md
  · have ht' : (l.rt : Int) ≠ 11 := by rw [ht]; decide
    repeat' (first | refine cseq ?_ | refine rtext ?_ | refine cfalse rfl ?_ | refine cskip ?_ | refine cret ?_ | refine jnil ?_ | (first | refine jmv rfl rfl rfl ?_ | refine jy (ynil rfl) rfl rfl ?_ | (show Jo _ (.fieldAddr _ _ _); refine jy (yfield rfl (by first | exact fb110_10 | exact fb108_1) rfl) rfl rfl ?_) | (show Jo _ (.load _ _); refine jy (yload (i := 0) rfl rfl rfl one85) rfl rfl ?_) | refine jas_ rfl rfl rfl ?_ | (show Jo _ (.binOp _ _ _ _ _); refine jy (yeql rfl rfl (by (exact decide_eq_false (by omega)))) rfl rfl ?_) | (show Jo _ (.call _); ((show Jo _ (.call ⟨.value (.func 159), _, _⟩); refine jcall (ι := Nat) (v := fun g => fV g (rd false)) (m' := fun g => fB g (rd false) :: lB H l :: E) (fun g => (X.sub 11 w).may g) bo181 rfl rfl rfl (fun w' hw' => fresh181 _ _ w' hw') (fun g hg => ?_))))))
    exact ret1 rfl rfl rfl (fun w' hw' => ⟨g, rfl, hw.up hw', Cx.may_up hw hg⟩)
  · have ht' : (l.rt : Int) = 11 := by rw [ht]; decide
    repeat' (first | refine cseq ?_ | refine rtext ?_ | refine ctrue rfl ?_ | refine cret ?_ | refine tret ?_ | refine jnil ?_ | (first | refine jmv rfl rfl rfl ?_ | refine jy (ynil rfl) rfl rfl ?_ | (show Jo _ (.fieldAddr _ _ _); refine jy (yfield rfl (by first | exact fb110_10 | exact fb108_1) rfl) rfl rfl ?_) | (show Jo _ (.load _ _); refine jy (yload (i := 0) rfl rfl rfl one85) rfl rfl ?_) | refine jas_ rfl rfl rfl ?_ | (show Jo _ (.binOp _ _ _ _ _); refine jy (yeql rfl rfl (by (exact decide_eq_true (by omega)))) rfl rfl ?_) | (show Jo _ (.call _); ((show Jo _ (.call ⟨.value (.func 158), _, _⟩); refine jcall (ι := Nat) (v := fun g => fV g (rd true)) (m' := fun g => fB g (rd true) :: lB H l :: E) (fun g => (X.sub 11 w).may g) bo180 rfl rfl rfl (fun w' hw' => fresh180 _ _ w' hw') (fun g hg => ?_))))))
    exact ret1 rfl rfl rfl (fun w' hw' => ⟨g, rfl, hw.up hw', Cx.may_up hw hg⟩)
theorem bo158 : bodyB Tryz.prog 136 = true := by kernel_rfl
theorem cur158 {w : World} {H : Hd} {l : LS} (hm : Has [lB H l] w) : Calls Tryz.prog 136 #[pL H] w fun e w' => e = .returned (.int .i64 l.lt) ∧ Below w.heap.size w w' := by
  refine enter (fun _ => False) 8 [lB H l] Tryz.func136 rfl rfl rfl (vs := [pL H]) hm ?_
  conv => arg 2; arg 2; whnf
  repeat' (first | refine cseq ?_ | refine rtext ?_ | refine cret ?_ | refine jnil ?_ | (first | refine jmv rfl rfl rfl ?_ | refine jy (ynil rfl) rfl rfl ?_ | (show Jo _ (.fieldAddr _ _ _); refine jy (yfield rfl (by first | exact fb110_10 | exact fb108_0) rfl) rfl rfl ?_) | (show Jo _ (.load _ _); refine jy (yload (i := 0) rfl rfl rfl one85) rfl rfl ?_) | refine jas_ rfl rfl rfl ?_))
  exact ret1 rfl rfl rfl (fun w' hw' => ⟨rfl, hw'.2.below (fun k _ h => h) (Nat.le_refl _)⟩)
theorem bo182 : bodyB Tryz.prog 160 = true := by kernel_rfl
theorem cur182 {w : World} {H : Hd} {l : LS} (hm : Has [lB H l] w) : Calls Tryz.prog 160 #[pL H] w fun e w' => e = .returned (.int .i64 l.rt) ∧ Below w.heap.size w w' := by
  refine enter (fun _ => False) 8 [lB H l] Tryz.func160 rfl rfl rfl (vs := [pL H]) hm ?_
  conv => arg 2; arg 2; whnf
  repeat' (first | refine cseq ?_ | refine rtext ?_ | refine cret ?_ | refine jnil ?_ | (first | refine jmv rfl rfl rfl ?_ | refine jy (ynil rfl) rfl rfl ?_ | (show Jo _ (.fieldAddr _ _ _); refine jy (yfield rfl (by first | exact fb110_10 | exact fb108_1) rfl) rfl rfl ?_) | (show Jo _ (.load _ _); refine jy (yload (i := 0) rfl rfl rfl one85) rfl rfl ?_) | refine jas_ rfl rfl rfl ?_))
  exact ret1 rfl rfl rfl (fun w' hw' => ⟨rfl, hw'.2.below (fun k _ h => h) (Nat.le_refl _)⟩)
end Go.Proofs.YtkehggbmpdacpabGreatDoor.Pg
namespace Go.Rx
open Go.RowKit
def fullB (n : Nat) (l : Array Bool) : Bool := (List.range n).all fun k => l.getD k false
def preO (ops : Array Oper) (j : Nat) : List Nat := match ops[j]? with
  | some o => (o.after.toList.filter fun e => Region.binds .any e).map (·.on)
  | none => []
def ancs (ops : Array Oper) (j : Nat) : List Nat := (List.range ops.size).reverse.foldl (fun acc i => bif acc.contains i then acc ++ preO ops i else acc) (preO ops j)
def laterB (n : Nat) (ops : Array Oper) : Bool := (List.range ops.size).all fun j => Nat.blt j n || (List.range n).all fun i => (ancs ops j).contains i
def Closed (ops : Array Oper) (l : Array Bool) : Prop := ∀ i, l.getD i false = true → ∀ k ∈ preO ops i, l.getD k false = true
def closedB (ops : Array Oper) (l : Array Bool) : Bool := (List.range ops.size).all fun i => !(l.getD i false) || (preO ops i).all fun k => l.getD k false
theorem closed_of {ops : Array Oper} {l : Array Bool} (h : closedB ops l = true) : Closed ops l := by
  intro i hi k hk
  unfold closedB at h
  rw [List.all_eq_true] at h
  rcases Nat.lt_or_ge i ops.size with hlt | hge
  · have h1 := h i (List.mem_range.2 hlt)
    rw [hi] at h1
    simp only [Bool.not_true, Bool.false_or] at h1
    exact List.all_eq_true.1 h1 k hk
  · unfold preO at hk
    rw [Array.getElem?_eq_none hge] at hk
    cases hk
theorem pre_ready {ops : Array Oper} {l : Array Bool} {j : Nat} (hj : j ∈ Region.ready .any ops l) : ∀ k ∈ preO ops j, l.getD k false = true := by
  obtain ⟨_, o, ho, hall⟩ := mem_ready.1 hj
  intro k hk
  unfold preO at hk
  rw [ho] at hk
  simp only [List.mem_map, List.mem_filter, Array.mem_toList_iff] at hk
  obtain ⟨e, ⟨he, hb⟩, rfl⟩ := hk
  exact hall e he hb
theorem Closed.set {ops : Array Oper} {l : Array Bool} {j : Nat} (h : Closed ops l) (hj : j ∈ Region.ready .any ops l) : Closed ops (l.setIfInBounds j true) := by
  intro i hi k hk
  by_cases e : j = i
  · subst e
    exact getD_set_true (pre_ready hj k hk)
  · rw [getD_set_ne false e] at hi
    exact getD_set_true (h i hi k hk)
theorem ancs_ready {ops : Array Oper} {l : Array Bool} {j : Nat} (h : Closed ops l) (hj : j ∈ Region.ready .any ops l) : ∀ k ∈ ancs ops j, l.getD k false = true := by
  unfold ancs
  have key : ∀ (xs : List Nat) (acc : List Nat), (∀ k ∈ acc, l.getD k false = true) → ∀ k ∈ xs.foldl (fun acc i => bif acc.contains i then acc ++ preO ops i else acc) acc, l.getD k false = true := by
    intro xs
    induction xs with
    | nil => intro acc ha; exact ha
    | cons x xs ih =>
      intro acc ha
      refine ih _ ?_
      intro k hk
      dsimp only at hk
      cases hc : acc.contains x with
      | false => rw [hc] at hk; exact ha k hk
      | true =>
        rw [hc] at hk
        rcases List.mem_append.1 hk with hk | hk
        · exact ha k hk
        · exact h x (ha x (by simpa using hc)) k hk
  exact key _ _ (pre_ready hj)
def wpAnyT (P : Program) (ops : Array Oper) (Q : Exit → Act → World → Prop) (S : World → Prop) (n : Nat) : Nat → Array Bool → Act → World → Prop
  | 0, listed, a, w => wpAny P .any ops Q 0 listed a w
  | fuel + 1, listed, a, w => if fullB n listed = true then wpAny P .any ops Q (fuel + 1) listed a w else
    (Region.ready .any ops listed = [] → Q .normal a w) ∧
    ∀ i ∈ Region.ready .any ops listed, wpOp P ops Q i (fun a' w' => S w' ∧ wpAnyT P ops Q S n fuel (listed.setIfInBounds i true) a' w') a w
section
variable {P : Program} {ops : Array Oper} {Q : Exit → Act → World → Prop} {S : World → Prop} {n : Nat}
theorem any_of_anyT : ∀ (fuel : Nat) (listed : Array Bool) (a : Act) (w : World), wpAnyT P ops Q S n fuel listed a w → wpAny P .any ops Q fuel listed a w
  | 0, _, _, _, h => h
  | fuel + 1, listed, a, w, h => by
    unfold wpAnyT at h
    split at h
    · exact h
    · exact ⟨h.1, fun i hi => wpOp_mono (fun a' w' h' => any_of_anyT fuel _ a' w' h'.2) (h.2 i hi)⟩
theorem full_not {i : Nat} {listed : Array Bool} (hin : i < n) (h : listed.getD i true = false) : ¬ fullB n listed = true := by
  intro hf
  unfold fullB at hf
  rw [List.all_eq_true] at hf
  have h1 := hf i (List.mem_range.2 hin)
  rcases Nat.lt_or_ge i listed.size with h' | h'
  · simp [h'] at h h1
    rw [h] at h1
    cases h1
  · simp [Array.getElem?_eq_none h'] at h1
theorem anyT_first {i : Nat} {oi : Oper} {v : Value} (hin : i < n) (hlat : laterB n ops = true) (hi : ops[i]? = some oi) (hsel : ∀ (j : Nat) (o : Oper) cs b, ops[j]? = some o → o.op ≠ .select cs b)
    (hQ : ∀ c a w, Q (.panic c) (a.put oi.dst v) w → Q (.panic c) a w) :
    ∀ (fuel : Nat) (listed : Array Bool) (a : Act) (w : World), Closed ops listed →
      (∀ j oj, ops[j]? = some oj → j ≠ i → listed.getD j true = false → (∀ e ∈ oj.after, Region.binds .any e = true → e.on ≠ i) → oi.apart ops oj = true) →
      i ∈ Region.ready .any ops listed → YieldsIf P ops S oi v a → S w →
      wpAnyT P ops Q S n fuel (listed.setIfInBounds i true) (a.put oi.dst v) w → wpAnyT P ops Q S n (fuel + 1) listed a w := by
  intro fuel
  induction fuel with
  | zero =>
    intro listed a w _ _ hr hy hS H
    unfold wpAnyT
    rw [if_neg (full_not hin (mem_ready.1 hr).1)]
    refine ⟨fun h => (by rw [h] at hr; cases hr), fun j hj => ?_⟩
    by_cases hji : j = i
    · subst hji; exact hy.wpOp hi hS ⟨hS, H⟩
    · have := ready_mono hj hji
      rw [H.1] at this
      cases this
  | succ fuel ih =>
    intro listed a w hcl hfree hr hy hS H
    unfold wpAnyT
    rw [if_neg (full_not hin (mem_ready.1 hr).1)]
    refine ⟨fun h => (by rw [h] at hr; cases hr), fun j hj => ?_⟩
    by_cases hji : j = i
    · subst hji; exact hy.wpOp hi hS ⟨hS, H⟩
    · obtain ⟨hjun, oj, hoj, hall⟩ := mem_ready.1 hj
      have hnot : ∀ e ∈ oj.after, Region.binds .any e = true → e.on ≠ i := fun e he hb heq => by
        have h1 := hall e he hb
        have h0 := (mem_ready.1 hr).1
        rw [heq] at h1
        rcases Nat.lt_or_ge i listed.size with h' | h'
        · simp [h'] at h0 h1; rw [h0] at h1; cases h1
        · simp [Array.getElem?_eq_none h'] at h1
      have hjn : j < n := by
        rcases Nat.lt_or_ge j n with h | h
        · exact h
        · exfalso
          unfold laterB at hlat
          rw [List.all_eq_true] at hlat
          have h1 := hlat j (List.mem_range.2 (Array.getElem?_eq_some_iff.1 hoj).1)
          have hb : Nat.blt j n = false := by
            cases hc : Nat.blt j n
            · rfl
            · exact absurd (Nat.blt_eq ▸ hc : j < n) (by omega)
          simp only [hb, Bool.false_or] at h1
          rw [List.all_eq_true] at h1
          have h2 := h1 i (List.mem_range.2 hin)
          have h3 := ancs_ready hcl hj i (by simpa using h2)
          have h0 := (mem_ready.1 hr).1
          rcases Nat.lt_or_ge i listed.size with h' | h'
          · simp [h'] at h0 h3; rw [h0] at h3; cases h3
          · simp [Array.getElem?_eq_none h'] at h3
      have hnf : ¬ fullB n (listed.setIfInBounds i true) = true := full_not hjn (by rw [getD_set_ne true (Ne.symm hji)]; exact hjun)
      unfold wpAnyT at H
      rw [if_neg hnf] at H
      have h1 := H.2 j (ready_mono hj hji)
      have h2 := wpOp_putIf hoj (hfree j oj hoj hji hjun hnot) (fun cs b => hsel i oi cs b hi) (fun cs b => hsel j oj cs b hoj) hQ hy h1
      have hfree' : ∀ k ok, ops[k]? = some ok → k ≠ i → (listed.setIfInBounds j true).getD k true = false →
          (∀ e ∈ ok.after, Region.binds .any e = true → e.on ≠ i) → oi.apart ops ok = true := fun k ok hk hki hun hno => by
        refine hfree k ok hk hki ?_ hno
        by_cases hjk : j = k
        · subst hjk; exact hjun
        · rw [getD_set_ne true hjk] at hun; exact hun
      refine wpOp_mono (fun a' w' h3 => ⟨h3.2.1, ih (listed.setIfInBounds j true) a' w' (hcl.set hj) hfree' (ready_mono hr (Ne.symm hji)) h3.1 h3.2.1 ?_⟩) h2
      rw [Array.setIfInBounds_comm _ _ hji]
      exact h3.2.2
theorem anyT_take {i : Nat} {oi : Oper} {v : Value} {fuel : Nat} {listed : Array Bool} {a : Act} {w : World} (hin : i < n) (hlat : laterB n ops = true) (hcl : Closed ops listed) (hi : ops[i]? = some oi)
    (hs : Region.noSelect ops = true) (hf : Region.free .any ops listed i = true) (hr : (Region.ready .any ops listed).contains i = true)
    (hQ : ∀ c a w, Q (.panic c) (a.put oi.dst v) w → Q (.panic c) a w) (hy : YieldsIf P ops S oi v a) (hS : S w)
    (h : wpAnyT P ops Q S n fuel (listed.setIfInBounds i true) (a.put oi.dst v) w) : wpAnyT P ops Q S n (fuel + 1) listed a w :=
  anyT_first hin hlat hi (Region.noSelect_spec hs) hQ fuel listed a w hcl (Region.free_spec hi hf) (by simpa using hr) hy hS h
theorem anyT_all {rs : List Nat} {fuel : Nat} {listed : Array Bool} {a : Act} {w : World} (hf : fullB n listed = false) (hr : Region.ready .any ops listed = rs) (hne : rs ≠ [])
    (h : ∀ i ∈ rs, wpOp P ops Q i (fun a' w' => S w' ∧ wpAnyT P ops Q S n fuel (listed.setIfInBounds i true) a' w') a w) : wpAnyT P ops Q S n (fuel + 1) listed a w := by
  unfold wpAnyT
  rw [if_neg (by rw [hf]; simp)]
  exact ⟨fun h0 => absurd (hr ▸ h0) hne, hr ▸ h⟩
theorem anyT_full {fuel : Nat} {listed : Array Bool} {a : Act} {w : World} (hf : fullB n listed = true) (h : wpAny P .any ops Q fuel listed a w) : wpAnyT P ops Q S n fuel listed a w := by
  cases fuel with
  | zero => exact h
  | succ fuel => unfold wpAnyT; rw [if_pos hf]; exact h
end
structure WAnyT (P : Program) (l : List Oper) (Q : Exit → Act → World → Prop) (X : Cx) (mS : Mem) (n g : Nat) (D : List Nat) (a : Act) (w : World) : Prop where
  of :: out : wpAnyT P l.toArray Q (Cl X mS) n g (lst l.length D) a w
section
variable {X : Cx} {P : Program} {Q : Exit → Act → World → Prop} {K : Act → World → Prop} {l rest : List Oper} {f : Fr} {m mS : Mem} {o : Oper} {n : Nat}
theorem anyT_of_stl {S : World → Prop} {g : Nat} (hlat : laterB n l.toArray = true) (hsel : Region.noSelect l.toArray = true) (hQ : ∀ c d v a w, Q (.panic c) (Act.put a d v) w → Q (.panic c) a w) :
    ∀ (ks D : List Nat) (os : List Oper) (a : Act) (w : World), Closed l.toArray (lst l.length D) → ks.all (fun i => Nat.blt i n) = true → pickO l ks = some os → pickB l.toArray ks (lst l.length D) = true → S w → stl P l.toArray S K os a w →
      (∀ a w, S w → K a w → wpAnyT P l.toArray Q S n g (lst l.length (D ++ ks)) a w) → wpAnyT P l.toArray Q S n (g + ks.length) (lst l.length D) a w := by
  intro ks
  induction ks with
  | nil =>
    intro D os a w _ _ ho _ hS h hK
    cases ho
    have := hK a w hS h
    simpa using this
  | cons i ks ih =>
    intro D os a w hcl hk ho hB hS h hK
    simp only [List.all_cons, Bool.and_eq_true] at hk
    simp only [pickO] at ho
    split at ho
    · rename_i r hr
      split at ho
      · rename_i o hn
        cases ho
        simp only [pickB, Bool.and_eq_true] at hB
        obtain ⟨v, hy, hrest⟩ := h
        have e1 : (lst l.length D).setIfInBounds i true = lst l.length (D ++ [i]) := by unfold lst; rw [List.foldl_append]; rfl
        have hi : l.toArray[i]? = some o := by rw [List.getElem?_toArray, ← nthO_eq]; exact hn
        refine anyT_take (Nat.blt_eq ▸ hk.1) hlat hcl hi hsel hB.1.2 hB.1.1 (fun c a w h => hQ c _ _ a w h) hy hS ?_
        rw [e1]
        refine ih (D ++ [i]) r _ w (e1 ▸ hcl.set (by simpa using hB.1.1)) hk.2 hr (by rw [← e1]; exact hB.2) hS hrest (fun a w hS hk => ?_)
        have := hK a w hS hk
        rwa [List.append_assoc]
      · cases ho
    · cases ho
theorem jaqT {g g' : Nat} {D D' : List Nat} {os : List Oper} (ks : List Nat) (hD : appO D ks = some D') (hS : ∀ w, Cl X m w → Cl X mS w) (hlat : laterB n l.toArray = true) (hcl : closedB l.toArray (lst l.length D) = true) (hkn : ks.all (fun i => Nat.blt i n) = true) (hsel : Region.noSelect l.toArray = true) (hB : pickB l.toArray ks (lst l.length D) = true) (hg : Nat.beq (g' + ks.length) g = true)
    (hQ : ∀ c d v a w, Q (.panic c) (Act.put a d v) w → Q (.panic c) a w) (ho : pickO l ks = some os)
    (h : JT true X P l.toArray Q (WIf X m (WAnyT P l Q X mS n g' D')) os f mS) : PJ X (WAnyT P l Q X mS n g D) f m := .of fun a w s => .of <| by
  obtain rfl := Nat.eq_of_beq_eq_true hg
  obtain rfl := appO_of hD
  have hm : Cl X m w := ⟨s.has, s.evo⟩
  have hm' := hS w hm
  have h1 : stl P l.toArray (Cl X mS) (fun a' w' => w' = w ∧ WIf X m (WAnyT P l Q X mS n g' (D ++ ks)) a' w') os a w := by
    have key : ∀ (os : List Oper) (a : Act) (K : Act → World → Prop), stl P l.toArray (Cl X mS) K os a w → stl P l.toArray (Cl X mS) (fun a' w' => w' = w ∧ K a' w') os a w := by
      intro os
      induction os with
      | nil => intro a K h; exact ⟨rfl, h⟩
      | cons o r ih => intro a K h; obtain ⟨v, hy, hr⟩ := h; exact ⟨v, hy, ih _ K hr⟩
    exact key os a _ (h.out a w ⟨s.agr, hm'.1, hm'.2⟩)
  exact anyT_of_stl hlat hsel hQ ks D os a w (closed_of hcl) hkn ho hB hm' h1 (fun a' w' _ hk => (hk.2.out (hk.1 ▸ hm)).out)
theorem ja1T {g g' : Nat} {D D' : List Nat} (i : Nat) (hD : appO D [i] = some D') (hg : Nat.beq (g' + 1) g = true) (hf : fullB n (lst l.length D) = false) (hr : Region.ready .any l.toArray (lst l.length D) = [i]) (ho : nthO l i = some o)
    (h : J false X P l.toArray Q (WKeep X mS (WAnyT P l Q X mS n g' D')) [o] f m) : PJ X (WAnyT P l Q X mS n g D) f m := .of fun a w s => .of <| by
  obtain rfl := Nat.eq_of_beq_eq_true hg
  obtain rfl := appO_of hD
  refine anyT_all hf hr (by simp) fun j hj => ?_
  obtain rfl : j = i := by simpa using hj
  refine wpOp_mono (fun a' w' h3 => ⟨h3.cl, ?_⟩) (jop ho h a w s)
  have := h3.out.out
  unfold lst at this ⊢
  rwa [List.foldl_append] at this
theorem jfullT {g : Nat} {D : List Nat} (hf : fullB n (lst l.length D) = true) (h : PJ X (WAny P l Q X [] g D) f m) : PJ X (WAnyT P l Q X mS n g D) f m := .of fun a w s => .of (anyT_full hf (wpAny_of_held _ _ _ _ (h.out a w s).out))
theorem ranyT {id : Nat} (n : Nat) (mS : Mem) (hm : P.follows .mixedOrders = true) (h : PJ X (WAnyT P l Q X mS n l.length []) f m) : PJ X ((Code.region id l.toArray true).wp P Q) f m := .of fun a w s =>
  wp_region_any hm (any_of_anyT _ _ _ _ (h.out a _ ⟨s.agr, s.has.drawn _, s.evo.drawn _⟩).out)
end
end Go.Rx
namespace Go.Proofs.YtkehggbmpdacpabGreatDoor.Pg
open Go.Rx hiding bt
open Go.RowKit Go.Proofs.YtkehggbmpdacpabGreatDoor.Dec0 Go.Proofs.YtkehggbmpdacpabGreatDoor.Lex0
def itC (ty : Nat) (er : Value) (lo hi : Nat) (sg : Value) (fb : Nat) (str : Bool) : List Value := [.int .i64 ty, er, .int .i64 lo, .int .i64 hi, sg, .int .u8 fb, .bool str]
structure RS where
  gR : Nat
  n : Nat
  cap : Nat
  ics : List Value
  rr : List Value
theorem rowv_one (r : Row) (n : Nat) : (r.val n).oneCell' = true := by cases r <;> rfl
def RS.val (q : RS) : Value := (Row.at q.gR q.cap q.rr).val q.n
def qB (q : RS) : Nat × List Value × Bk := (q.gR, q.ics ++ q.rr, .c 78)
structure QOk (X : Cx) (q : RS) : Prop where
  ok : (Row.at q.gR q.cap q.rr).ok 0 7 q.n q.ics
  may : X.may q.gR
theorem QOk.sub {X : Cx} {q : RS} (h : QOk X q) (n : Nat) (w : World) : QOk (X.sub n w) q := ⟨h.ok, Cx.may_sub h.may⟩
theorem QOk.up {X : Cx} {q : RS} {m : Mem} {n : Nat} {w : World} (hw : Cl X m w) (h : QOk (X.sub n w) q) : QOk X q := ⟨h.ok, Cx.may_up hw h.may⟩
def PosIn (E : Mem) (sg : Value) (lo p : Nat) : Prop := (sg = .slice none 0 0 ∧ p = lo) ∨ ∃ g n c cs, sg = .slice (some ⟨g, 0, none⟩) (n + 1) c ∧ (g, .int .i64 p :: cs, Bk.c 104) ∈ E
theorem posIn0 (E : Mem) (lo : Nat) : PosIn E (.slice none 0 0) lo lo := .inl ⟨rfl, rfl⟩
def fbN (s : T) (p : Nat) : Nat := (s.getD p 0).toNat
theorem und86 : Tryz.prog.underlying 76 = some (.slice 104) := by kernel_rfl
theorem sz126 : szB Tryz.prog 104 2 = true := by kernel_rfl
theorem fb126_0 : fieldB Tryz.prog 104 0 = some 0 := by kernel_rfl
theorem fb88_2 : fieldB Tryz.prog 78 2 = some 2 := by kernel_rfl
theorem fb88_4 : fieldB Tryz.prog 78 4 = some 4 := by kernel_rfl
theorem fb88_5 : fieldB Tryz.prog 78 5 = some 5 := by kernel_rfl
theorem one86 : oneB Tryz.prog 76 = true := by kernel_rfl
theorem one101 : oneB Tryz.prog 83 = true := by kernel_rfl
theorem ag88 : aggB Tryz.prog 78 7 = true := by kernel_rfl
theorem si5 : (Tryz.prog.info? 5).map (·.size) = some 1 := by kernel_rfl
theorem gr77 : growB Tryz.prog 67 78 7 72 = true := by kernel_rfl
theorem bu88 (a b c : Int) : Tryz.prog.built 78 [(0, .int .i64 a), (2, .int .i64 b), (3, .int .i64 c)] = some [.int .i64 a, .nilIface, .int .i64 b, .int .i64 c, .slice none 0 0, .int .u8 0, .bool false].toArray := by kernel_rfl
theorem bu88s (a b c : Int) : Tryz.prog.built 78 [(0, .int .i64 a), (2, .int .i64 b), (3, .int .i64 c), (6, .bool true)] = some [.int .i64 a, .nilIface, .int .i64 b, .int .i64 c, .slice none 0 0, .int .u8 0, .bool true].toArray := by kernel_rfl
theorem bu88e (a b c : Int) (t : TypeId) (e : Value) : Tryz.prog.built 78 [(0, .int .i64 a), (1, .iface t e), (2, .int .i64 b), (3, .int .i64 c)] = some [.int .i64 a, .iface t e, .int .i64 b, .int .i64 c, .slice none 0 0, .int .u8 0, .bool false].toArray := by kernel_rfl
theorem bu88g (a : Int) (d : Option Addr) (n c : Nat) : Tryz.prog.built 78 [(0, .int .i64 a), (4, .slice d n c)] = some [.int .i64 a, .nilIface, .int .i64 0, .int .i64 0, .slice d n c, .int .u8 0, .bool false].toArray := by kernel_rfl
theorem bo70 : bodyB Tryz.prog 56 = true := by kernel_rfl
theorem bo129 : bodyB Tryz.prog 107 = true := by kernel_rfl
theorem bo116 : bodyB Tryz.prog 94 = true := by kernel_rfl
theorem bo133 : bodyB Tryz.prog 111 = true := by kernel_rfl
theorem bo185 : bodyB Tryz.prog 163 = true := by kernel_rfl
theorem pos_calls {w : World} {E : Mem} {ty : Nat} {er : Value} {lo hi : Nat} {sg : Value} {fb : Nat} {str : Bool} {p : Nat} (hE : Has E w) (hp : PosIn E sg lo p) : Calls Tryz.prog 56 #[.agg (itC ty er lo hi sg fb str).toArray] w fun e w' => e = .returned (.int .i64 p) ∧ Below w.heap.size w w' := by
  refine enter (fun _ => False) 14 [] Tryz.func56 rfl rfl rfl (vs := [.agg (itC ty er lo hi sg fb str).toArray]) (Has.nil _) ?_
  conv => arg 2; arg 2; whnf
  rcases hp with ⟨rfl, rfl⟩ | ⟨g, n, c, cs, rfl, hm⟩
  · repeat' (first | refine cseq ?_ | refine rtext ?_ | refine cfalse rfl ?_ | refine cskip ?_ | refine cret ?_ | refine jnil ?_ | (first | (show Jo _ (.fieldAddr _ _ _); refine jy (yfield rfl (by first | exact fb88_4 | exact fb88_2) rfl) rfl rfl ?_) | (show Jo _ (.load _ _); refine jy (yload (i := 0) rfl rfl rfl one86) rfl rfl ?_) | refine jas_ rfl rfl rfl ?_ | (show Jo _ (.binOp _ _ _ _ _); refine jy (ygtr rfl rfl (by (exact decide_eq_false (by omega)))) rfl rfl ?_) | (show Jo _ (.call _); refine jy (ylenl rfl und86) rfl rfl ?_) | (show Jo _ (.box 78 _); refine jbox (c := itC _ _ _ _ _ _ _) rfl rfl rfl (fun gb hTb => ?_))))
    exact ret1 rfl rfl rfl (fun w' hw' => ⟨rfl, hw'.2.below (fun k _ h => h) (Nat.le_refl _)⟩)
  · have hc : w.cell? ⟨g, 0, none⟩ = some (.int .i64 p) := by
      have h1 := hE.blk _ hm
      have h2 : w.heap[g]? = some (.cells (.int .i64 (p : Int) :: cs).toArray 104 (0, 0)) := h1
      simp [World.cell?, h2]
    repeat' (first | refine cseq ?_ | refine rtext ?_ | refine ctrue rfl ?_ | refine cret ?_ | refine tret ?_ | refine jnil ?_ | (first | (show Jo _ (.fieldAddr _ _ _); refine jy (yfield rfl (by first | exact fb88_4 | exact fb126_0) rfl) rfl rfl ?_) | (show Jo _ (.load _ _); first | refine jy (yload (i := 0) rfl rfl rfl one86) rfl rfl ?_ | refine jy (yloadw (p := ⟨g, 0, none⟩) rfl hc (fun h => h) one3) rfl rfl ?_) | refine jas_ rfl rfl rfl ?_ | (show Jo _ (.binOp _ _ _ _ _); refine jy (ygtr rfl rfl (by (exact decide_eq_true (by omega)))) rfl rfl ?_) | (show Jo _ (.call _); refine jy (ylenl rfl und86) rfl rfl ?_) | (show Jo _ (.box 78 _); refine jbox (c := itC _ _ _ _ _ _ _) rfl rfl rfl (fun gb hTb => ?_)) | (show Jo _ (.indexAddr 76 _ _); refine jy (yat (p' := ⟨g, 0, none⟩) rfl rfl und86 sz126 (by omega) (by omega) (by rw [add_lit]; rfl)) rfl rfl ?_)))
    exact ret1 rfl rfl rfl (fun w' hw' => ⟨rfl, hw'.2.below (fun k _ h => h) (Nat.le_refl _)⟩)
def Row.rs (r : Row) (n : Nat) (ics : List Value) : RS := match r with
  | .at g cap rr => ⟨g, n, cap, ics, rr⟩
  | .nil => ⟨0, n, 0, ics, []⟩
theorem bytesL_at {s : T} {tl : List Value} {p : Nat} (hp : p < s.length) : nth (bytesL s ++ tl) p = some (.int .u8 (fbN s p)) := by
  rw [nth_eq, List.getElem?_append_left (by simpa [bytesL] using hp)]
  simp [bytesL, fbN, hp]
set_option maxHeartbeats 1000000 in
theorem append_calls {X : Cx} {H : Hd} {E : Mem} (hX : Ok X H) (l : LS) (q : RS) (hq : QOk X q) (hl : l.its = q.val) (hn : q.n < 1000000000000) {ty : Nat} {er : Value} {lo hi : Nat} {sg : Value} {str : Bool} {p : Nat} (hp : PosIn E sg lo p) (her : er.oneCell' = true) (hsg : sg.oneCell' = true) :
    ∀ w, Cl X (lB H l :: iB H :: qB q :: E) w → Calls Tryz.prog 107 #[pL H, .agg (itC ty er lo hi sg 0 str).toArray] w fun e w' => ∃ q' : RS, e = .returned (.tuple #[]) ∧ Cl X (lB H { l with its := q'.val } :: iB H :: qB q' :: E) w' ∧ QOk X q' ∧ q'.ics = q.ics ++ itC ty er lo hi sg (fbN H.s p) str ∧ q'.n = q.n + 1 := by
  intro w hw
  refine enterC 31 hw Tryz.func107 rfl rfl (vs := [pL H, .agg (itC ty er lo hi sg 0 str).toArray]) rfl ?_
  replace hX := hX.sub hw 31
  replace hq := hq.sub 31 w
  have hbig := hX.big
  have hone : ∀ u ∈ itC ty er lo hi sg (fbN H.s p) str, u.oneCell' = true := by
    intro u hu
    simp only [itC, List.mem_cons, List.not_mem_nil, or_false] at hu
    rcases hu with rfl | rfl | rfl | rfl | rfl | rfl | rfl <;> first | assumption | rfl
  conv => arg 2; arg 2; whnf
  have fin2 : ∀ (r' : Row) (f : Fr) (g1 g2 : Nat) (c1 c2 : List Value) (k1 k2 : Bk), r'.ok 0 7 (q.n + 1) (q.ics ++ itC ty er lo hi sg (fbN H.s p) str) → r'.may (X.sub 31 w) → PJ (X.sub 31 w) (bodyPost Tryz.prog Tryz.f107 (fun e w' => ∃ q' : RS, e = .returned (.tuple #[]) ∧ Cl X (lB H { l with its := q'.val } :: iB H :: qB q' :: E) w' ∧ QOk X q' ∧ q'.ics = q.ics ++ itC ty er lo hi sg (fbN H.s p) str ∧ q'.n = q.n + 1) .normal) f ((g1, c1, k1) :: (g2, c2, k2) :: lB H { l with its := r'.val (q.n + 1) } :: iB H :: (r'.mem (q.ics ++ itC ty er lo hi sg (fbN H.s p) str) 78 ++ E)) := by
    intro r' f g1 g2 c1 c2 k1 k2 h1 h2
    cases r' with
    | nil => exact absurd h1.1 (Nat.succ_ne_zero _)
    | «at» g cap rr =>
      refine end0 rfl rfl (fun w' hw' => ⟨⟨g, q.n + 1, cap, q.ics ++ itC ty er lo hi sg (fbN H.s p) str, rr⟩, rfl, ?_, QOk.up hw ⟨h1, h2⟩, rfl, rfl⟩)
      exact (hw.up hw').less (List.Sublist.cons _ (List.Sublist.cons _ (List.Sublist.refl _)))
  by_cases hlt : p < H.s.length
  · have hby := bytesL_at (tl := H.tl) hlt
    repeat' (first | first | (show PJ _ (Code.wp _ _ _) _ _; first | refine cseq ?_ | refine rtext ?_ | refine ctrue rfl ?_ | (show PJ _ (Code.wp _ (Code.region 2 _ true) _) _ _; refine rtail 9 mixed (by kernel_rfl) ?_) | (show PJ _ (Code.wp _ (Code.region 3 _ true) _) _ _; refine ranyT 8 [(gb, itC ty er lo hi sg (fbN H.s p) str, .c 78), lB H l] mixed ?_) | refine rquiet mixed (by kernel_rfl) ?_) | (show PJ _ (wpList _ _ _ _) _ _; refine jlist ?_) | refine jnil ?_ | (first | refine jmv rfl rfl rfl ?_ | refine jy (ynil rfl) rfl rfl ?_ | (show Jo _ (.fieldAddr _ _ _); refine jy (yfield rfl (by first | exact fb110_0 | exact fb88_5) rfl) rfl rfl ?_) | (show Jo _ (.load _ _); first | refine jy (yload (i := 1) rfl rfl rfl one59) rfl rfl ?_ | refine jy (yloads (i := 0) rfl rfl ag88) rfl rfl ?_ | refine jy (yloadr (i := 2) rfl rfl hby one5) rfl rfl ?_) | (show Jo _ (.binOp _ _ _ _ _); refine jy (ylss rfl rfl (by (exact decide_eq_true (by omega)))) rfl rfl ?_) | (show Jo _ (.store _ _ _); first | refine jstore (i := 0) rfl rfl rfl rfl rfl si5 (.inr hTb) ?_ | refine jstore (i := 2) rfl rfl rfl rfl (rowv_one _ _) si77 hX.mL ?_) | (show Jo _ (.call _); first | (show Jo _ (.call ⟨.builtin .len, _, _⟩); refine jy (ylenl rfl und59) rfl rfl ?_) | (show Jo _ (.call ⟨.value (.func 56), _, _⟩); refine jcallq bo70 rfl rfl rfl (quietC fun w' hw' => pos_calls (E := E) (hw'.1.sub (List.Sublist.cons _ (List.Sublist.cons _ (List.Sublist.cons _ (List.Sublist.cons _ (List.Sublist.refl _)))))) hp) ?_) | (show Jo _ (.call ⟨.builtin .append, _, _⟩); refine jappendP (k := 1) (r := .at q.gR q.cap q.rr) (B := 0) (n := q.n) (xs := q.ics) (news := itC ty er lo hi sg (fbN H.s p) str) ([_, _, _, _] ++ E) (fun r' => [_, _, _, _] ++ (r'.mem (q.ics ++ itC ty er lo hi sg (fbN H.s p) str) 78 ++ E)) (perm_row [_, _, _, _] ((Row.at q.gR q.cap q.rr).mem q.ics 78) E) (fun r' => (perm_row [_, _, _, _] _ _).symm) rfl rfl (src_blk (i := 0) 0 rfl (add_zero _) (fun j u hj => by rw [show 0 + j = j from Nat.zero_add j]; exact hj)) rfl hone hq.ok (Nat.zero_le _) hq.may gr77 (by omega) (by simp only [maxLen]; omega) (by omega) rfl (fun r' hr' hmr' => ?_))) | (show Jo _ (.box 78 _); refine jbox (c := itC ty er lo hi sg 0 str) rfl rfl rfl (fun gb hTb => ?_)) | (show Jo _ (.indexAddr 62 _ _); refine jy (yat (p' := ⟨H.gI, p, none⟩) rfl rfl und59 sz5 (by omega) (by omega) (by rw [add_lit]; congr 1; omega)) rfl rfl ?_) | (show Jo _ (.buildSlice 67 1 _); refine jlit1 (c := itC ty er lo hi sg (fbN H.s p) str) rfl rfl rfl gr77 rfl rfl rfl (fun gl hTl => ?_))) | first | (show JT _ _ _ _ _ _ [] _ _; refine jtnil ?_) | (first | (show JTo (some 25) (.load _ _); refine jty (yload (i := 1) rfl rfl (congrArg some hl) one77) rfl rfl ?_) | (show JTo _ (.move _); refine jty (ymove rfl) rfl rfl ?_) | (show JTo _ (.nilCheck _); refine jty (ynil rfl) rfl rfl ?_) | (show JTo _ (.fieldAddr _ _ _); refine jty (yfield rfl fb110_11 rfl) rfl rfl ?_) | (show JTo _ (.load _ _); refine jty (yloads (i := 0) rfl rfl ag88) rfl rfl ?_)) | first | (show PJ _ (WKeep _ _ _) _ _; refine jas (fun _ h => h.less (by repeat (first | exact List.nil_sublist _ | refine List.Sublist.cons_cons _ ?_ | refine List.Sublist.cons _ ?_))) ?_) | (show PJ _ (WIf _ _ _) _ _; refine jaw ?_) | (show PJ _ (WAnyT _ _ _ _ _ _ _ _) _ _; first | refine jaqT (n := 8) (g' := 5) (D := []) [0, 1, 2, 3, 4, 5] rfl (fun _ h => h.less (by repeat (first | exact List.nil_sublist _ | refine List.Sublist.cons_cons _ ?_))) (by kernel_rfl) (by kernel_rfl) (by kernel_rfl) (by kernel_rfl) (by kernel_rfl) rfl (fun _ d _ _ _ h => by cases d <;> exact h) rfl ?_ | refine ja1T (n := 8) (g' := 4) (D := [0, 1, 2, 3, 4, 5]) 6 rfl rfl (by kernel_rfl) (by kernel_rfl) rfl ?_ | refine ja1T (n := 8) (g' := 3) (D := [0, 1, 2, 3, 4, 5, 6]) 7 rfl rfl (by kernel_rfl) (by kernel_rfl) rfl ?_ | refine jfullT (D := [0, 1, 2, 3, 4, 5, 6, 7]) (by kernel_rfl) ?_) | (show PJ _ (WAny _ _ _ _ _ _ _) _ _; first | refine jaq (g' := 1) (D := [0, 1, 2, 3, 4, 5, 6, 7]) [8, 9] rfl (fun _ h => h.less (by repeat ((exact List.nil_sublist _)))) (by kernel_rfl) (by kernel_rfl) rfl (fun _ d _ _ _ h => by cases d <;> exact h) rfl ?_ | refine ja1 (g' := 0) (D := [0, 1, 2, 3, 4, 5, 6, 7, 8, 9]) 10 rfl rfl (by kernel_rfl) rfl ?_ | refine jadone rfl (by kernel_rfl) ?_))
    exact fin2 r' _ _ _ _ _ _ _ hr' hmr'
  · have hz : fbN H.s p = 0 := by simp [fbN, List.getD, Nat.le_of_not_lt hlt]
    rw [hz] at hone fin2 ⊢
    repeat' (first | first | (show PJ _ (Code.wp _ _ _) _ _; first | refine cseq ?_ | refine rtext ?_ | refine cfalse rfl ?_ | refine cskip ?_ | (show PJ _ (Code.wp _ (Code.region 3 _ true) _) _ _; refine ranyT 8 [(gb, itC ty er lo hi sg 0 str, .c 78), lB H l] mixed ?_) | refine rquiet mixed (by kernel_rfl) ?_) | refine jnil ?_ | (first | refine jmv rfl rfl rfl ?_ | refine jy (ynil rfl) rfl rfl ?_ | (show Jo _ (.fieldAddr _ _ _); refine jy (yfield rfl fb110_0 rfl) rfl rfl ?_) | (show Jo _ (.load _ _); first | refine jy (yload (i := 1) rfl rfl rfl one59) rfl rfl ?_ | refine jy (yloads (i := 0) rfl rfl ag88) rfl rfl ?_) | (show Jo _ (.binOp _ _ _ _ _); refine jy (ylss rfl rfl (by (exact decide_eq_false (by omega)))) rfl rfl ?_) | (show Jo _ (.store _ _ _); refine jstore (i := 2) rfl rfl rfl rfl (rowv_one _ _) si77 hX.mL ?_) | (show Jo _ (.call _); first | (show Jo _ (.call ⟨.builtin .len, _, _⟩); refine jy (ylenl rfl und59) rfl rfl ?_) | (show Jo _ (.call ⟨.value (.func 56), _, _⟩); refine jcallq bo70 rfl rfl rfl (quietC fun w' hw' => pos_calls (E := E) (hw'.1.sub (List.Sublist.cons _ (List.Sublist.cons _ (List.Sublist.cons _ (List.Sublist.cons _ (List.Sublist.refl _)))))) hp) ?_) | (show Jo _ (.call ⟨.builtin .append, _, _⟩); refine jappendP (k := 1) (r := .at q.gR q.cap q.rr) (B := 0) (n := q.n) (xs := q.ics) (news := itC ty er lo hi sg 0 str) ([_, _, _, _] ++ E) (fun r' => [_, _, _, _] ++ (r'.mem (q.ics ++ itC ty er lo hi sg 0 str) 78 ++ E)) (perm_row [_, _, _, _] ((Row.at q.gR q.cap q.rr).mem q.ics 78) E) (fun r' => (perm_row [_, _, _, _] _ _).symm) rfl rfl (src_blk (i := 0) 0 rfl (add_zero _) (fun j u hj => by rw [show 0 + j = j from Nat.zero_add j]; exact hj)) rfl hone hq.ok (Nat.zero_le _) hq.may gr77 (by omega) (by simp only [maxLen]; omega) (by omega) rfl (fun r' hr' hmr' => ?_))) | (show Jo _ (.box 78 _); refine jbox (c := itC ty er lo hi sg 0 str) rfl rfl rfl (fun gb hTb => ?_)) | (show Jo _ (.buildSlice 67 1 _); refine jlit1 (c := itC ty er lo hi sg 0 str) rfl rfl rfl gr77 rfl rfl rfl (fun gl hTl => ?_))) | first | (show JT _ _ _ _ _ _ [] _ _; refine jtnil ?_) | (first | (show JTo (some 25) (.load _ _); refine jty (yload (i := 1) rfl rfl (congrArg some hl) one77) rfl rfl ?_) | (show JTo _ (.move _); refine jty (ymove rfl) rfl rfl ?_) | (show JTo _ (.nilCheck _); refine jty (ynil rfl) rfl rfl ?_) | (show JTo _ (.fieldAddr _ _ _); refine jty (yfield rfl fb110_11 rfl) rfl rfl ?_) | (show JTo _ (.load _ _); refine jty (yloads (i := 0) rfl rfl ag88) rfl rfl ?_)) | first | (show PJ _ (WKeep _ _ _) _ _; refine jas (fun _ h => h.less (by repeat (first | exact List.nil_sublist _ | refine List.Sublist.cons_cons _ ?_ | refine List.Sublist.cons _ ?_))) ?_) | (show PJ _ (WIf _ _ _) _ _; refine jaw ?_) | (show PJ _ (WAnyT _ _ _ _ _ _ _ _) _ _; first | refine jaqT (n := 8) (g' := 5) (D := []) [0, 1, 2, 3, 4, 5] rfl (fun _ h => h.less (by repeat (first | exact List.nil_sublist _ | refine List.Sublist.cons_cons _ ?_))) (by kernel_rfl) (by kernel_rfl) (by kernel_rfl) (by kernel_rfl) (by kernel_rfl) rfl (fun _ d _ _ _ h => by cases d <;> exact h) rfl ?_ | refine ja1T (n := 8) (g' := 4) (D := [0, 1, 2, 3, 4, 5]) 6 rfl rfl (by kernel_rfl) (by kernel_rfl) rfl ?_ | refine ja1T (n := 8) (g' := 3) (D := [0, 1, 2, 3, 4, 5, 6]) 7 rfl rfl (by kernel_rfl) (by kernel_rfl) rfl ?_ | refine jfullT (D := [0, 1, 2, 3, 4, 5, 6, 7]) (by kernel_rfl) ?_) | (show PJ _ (WAny _ _ _ _ _ _ _) _ _; first | refine jaq (g' := 1) (D := [0, 1, 2, 3, 4, 5, 6, 7]) [8, 9] rfl (fun _ h => h.less (by repeat ((exact List.nil_sublist _)))) (by kernel_rfl) (by kernel_rfl) rfl (fun _ d _ _ _ h => by cases d <;> exact h) rfl ?_ | refine ja1 (g' := 0) (D := [0, 1, 2, 3, 4, 5, 6, 7, 8, 9]) 10 rfl rfl (by kernel_rfl) rfl ?_ | refine jadone rfl (by kernel_rfl) ?_))
    exact fin2 r' _ _ _ _ _ _ _ hr' hmr'
theorem tw_len {α : Type} {p : α → Bool} : ∀ {l : List α} {n : Nat}, n ≤ l.length → (∀ (k : Nat) x, k < n → l[k]? = some x → p x = true) → (∀ x, l[n]? = some x → p x = false) → (l.takeWhile p).length = n := by
  intro l
  induction l with
  | nil => intro n h _ _; simp at h ⊢; omega
  | cons a l ih =>
    intro n h1 h2 h3
    cases n with
    | zero => have := h3 a rfl; rw [List.takeWhile_cons_of_neg (by simp [this])]; rfl
    | succ n =>
      rw [List.takeWhile_cons_of_pos (h2 0 a (Nat.succ_pos n) rfl), List.length_cons, ih (n := n) (by simpa using h1) (fun k x hk hx => h2 (k + 1) x (by omega) (by simpa using hx)) (fun x hx => h3 x (by simpa using hx))]
theorem cut_len {s : T} {a b : Nat} (hb : b ≤ s.length) : (cut s a b).length = b - a := by
  unfold cut
  rw [List.length_take, List.length_drop]
  omega
theorem rev_at {s : T} {a b k : Nat} (hb : b ≤ s.length) (hk : k < b - a) : ((cut s a b).reverse)[k]? = some (s.getD (b - 1 - k) 0) := by
  have hl := cut_len (s := s) (a := a) hb
  rw [List.getElem?_reverse (by omega), hl]
  unfold cut
  rw [List.getElem?_take_of_lt (by omega), List.getElem?_drop, show a + (b - a - 1 - k) = b - 1 - k by omega, List.getD_eq_getElem?_getD, List.getElem?_eq_getElem (by omega)]
  rfl
theorem txts_k {s : T} {a b i : Nat} (hi : a ≤ i) (hib : i < b) (hb : b ≤ s.length) (hbl : ∀ k, i < k → k < b → isBl (s.getD k 0) = true) (hc : isBl (s.getD i 0) = false) : ((cut s a b).reverse.takeWhile isBl).length = b - 1 - i := by
  refine tw_len (by rw [List.length_reverse, cut_len hb]; omega) (fun k x hk hx => ?_) (fun x hx => ?_)
  · rw [rev_at hb (by omega)] at hx
    cases hx
    exact hbl _ (by omega) (by omega)
  · rw [rev_at hb (by omega)] at hx
    cases hx
    rw [show b - 1 - (b - 1 - i) = i by omega]
    exact hc
theorem txts_a {s : T} {a b i : Nat} (hi : a ≤ i) (hib : i < b) (hb : b ≤ s.length) (hbl : ∀ k, i < k → k < b → isBl (s.getD k 0) = true) (hc : isBl (s.getD i 0) = false) (hn : s.getD i 0 ≠ 10 ∨ i + 1 = b) : txts s a b = [mk 18 a b] := by
  have hk := txts_k hi hib hb hbl hc
  have hh : ((cut s a b).reverse.drop (b - 1 - i)).head? = some (s.getD i 0) := by
    rw [List.head?_drop, rev_at hb (by omega), show b - 1 - (b - 1 - i) = i by omega]
  unfold txts
  simp only [hk]
  rw [if_neg (fun h => by have := h.2; rw [List.length_reverse, cut_len hb] at this; omega), if_neg (fun h => by
    rw [hh] at h
    rcases hn with hn | hn
    · exact hn (Option.some.inj h.2)
    · omega)]
theorem txts_nl {s : T} {a b i : Nat} (hi : a ≤ i) (hib : i + 1 < b) (hb : b ≤ s.length) (hbl : ∀ k, i < k → k < b → isBl (s.getD k 0) = true) (hc : s.getD i 0 = 10) : txts s a b = [mk 18 a (i + 1), mk 17 (i + 1) b] := by
  have hk := txts_k hi (by omega) hb hbl (by rw [hc]; rfl)
  have hh : ((cut s a b).reverse.drop (b - 1 - i)).head? = some (s.getD i 0) := by
    rw [List.head?_drop, rev_at hb (by omega), show b - 1 - (b - 1 - i) = i by omega]
  unfold txts
  simp only [hk]
  rw [if_neg (fun h => by have := h.2; rw [List.length_reverse, cut_len hb] at this; omega), if_pos ⟨by omega, by rw [hh, hc]⟩, show b - (b - 1 - i) = i + 1 by omega]
theorem txts_bl {s : T} {a b : Nat} (hab : a < b) (hb : b ≤ s.length) (hbl : ∀ k, a ≤ k → k < b → isBl (s.getD k 0) = true) : txts s a b = [mk 17 a b] := by
  have hk : ((cut s a b).reverse.takeWhile isBl).length = b - a := by
    refine tw_len (by rw [List.length_reverse, cut_len hb]; omega) (fun k x hk hx => ?_) (fun x hx => ?_)
    · rw [rev_at hb (by omega)] at hx
      cases hx
      exact hbl _ (by omega) (by omega)
    · rw [List.getElem?_eq_none (by rw [List.length_reverse, cut_len hb]; omega)] at hx
      cases hx
  unfold txts
  simp only [hk]
  rw [if_pos ⟨fun h => by have := congrArg List.length h; rw [List.length_reverse, cut_len hb] at this; simp at this; omega, by rw [List.length_reverse, cut_len hb]⟩]
theorem txts_e (s : T) (a : Nat) : txts s a a = [mk 18 a a] := by
  unfold txts
  simp [cut]
def itmC (s : T) (it : Itm) : List Value := itC it.ty .nilIface it.low it.high (.slice none 0 0) (fbN s it.low) it.str
def emI (s : T) (t a b : Nat) : List Itm := if t = 18 then txts s a b else [mk t a b]
theorem Ok.cx {X : Cx} {H : Hd} (n : Nat) (D : List Deferred) (h : Ok X H) : Ok ⟨n, D, X.S, X.w0⟩ H := ⟨h.W, h.sz, h.big, h.mL, h.mM⟩
theorem QOk.cx {X : Cx} {q : RS} (n : Nat) (D : List Deferred) (h : QOk X q) : QOk ⟨n, D, X.S, X.w0⟩ q := ⟨h.ok, h.may⟩
def bB (gb : Nat) (H : Hd) : Nat × List Value × Bk := (gb, [pL H], .c 83)
def EmitR (X : Cx) (H : Hd) (E : Mem) (l : LS) (q : RS) (its : List Itm) (e : Ending) (w' : World) : Prop := ∃ q' : RS, e = .returned (.tuple #[]) ∧ Cl X (lB H { l with its := q'.val, start := l.pos } :: iB H :: qB q' :: E) w' ∧ QOk X q' ∧ q'.ics = q.ics ++ its.flatMap (itmC H.s) ∧ q'.n = q.n + its.length
theorem emit_end {X : Cx} {H : Hd} {E : Mem} {l : LS} {q q' : RS} {its : List Itm} {w : World} {m0 : Mem} (hw : Cl X m0 w) (hX0 : Ok X H) {gb : Nat} {ex : Exit} {f : Fr} (hex : ex = .ret ∨ ex = .normal) (hq : QOk (X.sub 117 w) q') (hc : q'.ics = q.ics ++ its.flatMap (itmC H.s)) (hn : q'.n = q.n + its.length) :
    PJ ⟨117, [⟨.fn (.func 111) #[.pointer (some ⟨gb, 0, none⟩)], #[]⟩], (X.sub 117 w).S, (X.sub 117 w).w0⟩ (bodyPostD Tryz.prog Tryz.f94 (EmitR X H E l q its) ex) f (bB gb H :: lB H { l with its := q'.val } :: iB H :: qB q' :: E) := by
  refine retDC (k := 111) (n := 8) (us := [.pointer (some ⟨gb, 0, none⟩)]) hex bo133 rfl rfl Tryz.func111 rfl rfl rfl (fun w1 hw1 => ?_)
  have hX := ((hX0.sub hw 117).cx 117 [⟨.fn (.func 111) #[.pointer (some ⟨gb, 0, none⟩)], #[]⟩]).sub hw1 8
  conv => arg 2; arg 2; whnf
  repeat' (first | (show PJ _ (Code.wp _ _ _) _ _; ((show PJ _ (Code.wp _ (Code.region 0 _ true) _) _ _; refine rtail 7 mixed (by kernel_rfl) ?_))) | (show PJ _ (wpList _ _ _ _) _ _; refine jlist ?_) | refine jnil ?_ | (first | refine jy (ynil rfl) rfl rfl ?_ | (show Jo _ (.fieldAddr _ _ _); refine jy (yfield rfl (by first | exact fb110_3 | exact fb110_4) rfl) rfl rfl ?_) | (show Jo _ (.load _ _); first | refine jy (yload (i := 0) rfl rfl rfl one101) rfl rfl ?_ | refine jy (yload (i := 1) rfl rfl rfl one101) rfl rfl ?_) | (show Jo _ (.store _ _ _); refine jstore (i := 1) rfl rfl rfl rfl rfl si3 hX.mL ?_)))
  exact end0 rfl rfl (fun w' hw' => ⟨rfl, q', rfl, (hw.up (n := 117) (hw1.up hw')).less (List.sublist_cons_self _ _), QOk.up hw hq, hc, hn⟩)
set_option maxHeartbeats 1000000 in
theorem emit_calls {X : Cx} {H : Hd} {E : Mem} (hX : Ok X H) (l : LS) (q : RS) (hq : QOk X q) (hl : l.its = q.val) (hn : q.n + 1 < 1000000000000) (t : Nat) (hs : l.start ≤ l.pos) (hp : l.pos ≤ H.s.length) :
    ∀ w, Cl X (lB H l :: iB H :: qB q :: E) w → Calls Tryz.prog 94 #[pL H, .int .i64 t] w (EmitR X H E l q (emI H.s t l.start l.pos)) := by
  intro w hw
  refine enterDC 117 hw Tryz.func94 rfl rfl (vs := [pL H, .int .i64 t]) rfl ?_
  have hX0 := hX
  replace hX := hX.sub hw 117
  replace hq := hq.sub 117 w
  have hbig := hX.big
  conv => arg 2; arg 2; whnf
  by_cases ht : t = 18
  · subst ht
    have e0 : emI H.s 18 l.start l.pos = txts H.s l.start l.pos := rfl
    rw [e0]
    repeat' (first | refine cseq ?_ | refine rtext ?_ | refine ctrue rfl ?_ | refine cblk ?_ | refine jnil ?_ | (first | refine jmv rfl rfl rfl ?_ | refine jy (ynil rfl) rfl rfl ?_ | (show Jo _ (.fieldAddr _ _ _); refine jy (yfield rfl fb110_3 rfl) rfl rfl ?_) | (show Jo _ (.load _ _); first | refine jy (yload (i := 0) rfl rfl rfl one101) rfl rfl ?_ | refine jy (yload (i := 1) rfl rfl rfl one101) rfl rfl ?_) | refine jas_ rfl rfl rfl ?_ | (show Jo _ (.binOp _ _ _ _ _); first | refine jy (ysub (c := (l.pos : Int) - 1) rfl rfl (by rw [i64_in (by omega) (by omega)])) rfl rfl ?_ | refine jy (yeql rfl rfl (by (exact decide_eq_true (by omega)))) rfl rfl ?_) | (show Jo _ (.box 83 _); refine jbox (c := [pL H]) rfl rfl rfl (fun gb hTb => ?_)) | (show Jo _ (.makeFunc _ _ _); refine jy (ymakeFunc rfl rfl) rfl rfl ?_) | (show Jo _ (.defer _); refine jdefC (us := [.pointer (some ⟨gb, 0, none⟩)]) rfl ?_; replace hX := Ok.cx 117 [⟨.fn (.func 111) #[.pointer (some ⟨gb, 0, none⟩)], #[]⟩] hX; replace hq := QOk.cx 117 [⟨.fn (.func 111) #[.pointer (some ⟨gb, 0, none⟩)], #[]⟩] hq)))
    refine fin (f' := [(1, .int .i64 (18 : Nat)), (2, .pointer (some ⟨gb, 0, none⟩)), (4, .int .i64 ((l.pos : Int) - 1))]) (m' := bB gb H :: lB H l :: iB H :: qB q :: E)
      (cloop (ι := Nat) (fun j => [(1, .int .i64 (18 : Nat)), (2, .pointer (some ⟨gb, 0, none⟩)), (4, .int .i64 ((j : Int) - 1))]) (fun _ => bB gb H :: lB H l :: iB H :: qB q :: E) (fun n j => n = j ∧ l.start ≤ j ∧ j ≤ l.pos ∧ (j = l.start → l.start = l.pos) ∧ ∀ k, j ≤ k → k < l.pos → isBl (H.s.getD k 0) = true) l.pos l.pos ⟨rfl, hs, Nat.le_refl _, fun h => h.symm, fun k h1 h2 => by omega⟩ ?_) ⟨rfl, rfl, rfl, trivial⟩ rfl
    rintro n j ⟨rfl, hj1, hj2, hj3, hbl⟩ K hK
    by_cases hlt : l.start < n
    · have hby := bytesL_at (tl := H.tl) (show n - 1 < H.s.length by omega)
      have hbl' : ∀ k, n - 1 < k → k < l.pos → isBl (H.s.getD k 0) = true := fun k h1 h2 => hbl k (by omega) h2
      have hfb : fbN H.s (n - 1) = (H.s.getD (n - 1) 0).toNat := rfl
      by_cases hcb : isBl (H.s.getD (n - 1) 0) = true
      · have hcb3 : fbN H.s (n - 1) = 32 ∨ fbN H.s (n - 1) = 9 ∨ fbN H.s (n - 1) = 13 := by
          unfold isBl at hcb
          simp only [Bool.or_eq_true, beq_iff_eq] at hcb
          rw [hfb]
          rcases hcb with (h | h) | h <;> rw [h] <;> simp
        have hall : ∀ k, n - 1 ≤ k → k < l.pos → isBl (H.s.getD k 0) = true := fun k h1 h2 => by
          rcases Nat.lt_or_ge (n - 1) k with h | h
          · exact hbl' k h h2
          · rw [show k = n - 1 by omega]; exact hcb
        by_cases hst : n - 1 = l.start
        · have e1 : txts H.s l.start l.pos = [mk 17 l.start l.pos] := txts_bl (by omega) hp (fun k h1 h2 => hall k (by omega) h2)
          rw [e1]
          rcases hcb3 with hcb3 | hcb3 | hcb3
          all_goals
            repeat' (first | (show PJ _ (Code.wp _ _ _) _ _; first | refine cseq ?_ | refine rtext ?_ | refine ctrue rfl ?_ | refine cfalse rfl ?_ | refine cskip ?_ | refine cblk ?_ | refine cret ?_ | (show PJ _ (Code.wp _ (Code.region 9 _ true) _) _ _; refine rtail 10 mixed (by kernel_rfl) ?_)) | refine tret ?_ | refine bret ?_ | (show PJ _ (wpList _ _ _ _) _ _; refine jlist ?_) | refine jnil ?_ | (first | refine js rfl rfl ?_ | refine jmv rfl rfl rfl ?_ | refine jy (ynil rfl) rfl rfl ?_ | (show Jo _ (.fieldAddr _ _ _); refine jy (yfield rfl (by first | exact fb110_3 | exact fb110_0 | exact fb110_4) rfl) rfl rfl ?_) | (show Jo _ (.load _ _); first | refine jy (yload (i := 0) rfl rfl rfl one101) rfl rfl ?_ | refine jy (yload (i := 1) rfl rfl rfl one101) rfl rfl ?_ | refine jy (yloadr (i := 2) rfl rfl hby one5) rfl rfl ?_) | refine jas_ rfl rfl rfl ?_ | (show Jo _ (.binOp _ _ _ _ _); first | (show Jo _ (.binOp .neq _ _ _ _); refine jy (yneq rfl rfl (by first | exact decide_eq_true (by omega) | exact decide_eq_false (by omega))) rfl rfl ?_) | refine jy (yeql rfl rfl (by (exact decide_eq_true (by omega)))) rfl rfl ?_ | refine jy (ygeq rfl rfl (by (exact decide_eq_true (by omega)))) rfl rfl ?_) | (show Jo _ (.pick _ _ _); first | refine jy (ypick1 rfl rfl) rfl rfl ?_ | refine jy (ypick0 rfl rfl) rfl rfl ?_) | (show Jo _ (.call _); ((show Jo (some 63) (.call _); refine jcall (ι := RS) (vs := [pL H, .agg (itC 17 .nilIface l.start l.pos (.slice none 0 0) 0 false).toArray]) (v := fun _ => .tuple #[]) (m' := fun q' => bB gb H :: lB H { l with its := q'.val } :: iB H :: qB q' :: E) (fun q' => QOk _ q' ∧ q'.ics = q.ics ++ itC 17 .nilIface l.start l.pos (.slice none 0 0) (fbN H.s l.start) false ∧ q'.n = q.n + 1) bo129 rfl rfl rfl (fun w' hw' => (append_calls (E := bB gb H :: E) hX l q hq hl (by omega) (posIn0 _ _) rfl rfl w' (hw'.perm (List.perm_middle (l₁ := [lB H l, iB H, qB q])).symm)).mono fun e w'' h => by obtain ⟨q', h1, h2, h3, h4, h5⟩ := h; exact ⟨q', h1, h2.perm (List.perm_middle (l₁ := [lB H { l with its := q'.val }, iB H, qB q'])), h3, h4, h5⟩) (fun q1 hq1 => ?_); obtain ⟨hq1, hc1, hn1⟩ := hq1))) | (show Jo _ (.indexAddr 62 _ _); refine jy (yat (p' := ⟨H.gI, n - 1, none⟩) rfl rfl und59 sz5 (by omega) (by omega) (by rw [add_lit]; congr 1; omega)) rfl rfl ?_) | (show Jo _ (.build 78 _); refine jy (ybuild rfl (bu88 _ _ _)) rfl rfl ?_)))
            exact emit_end hw hX0 (.inl rfl) ⟨hq1.ok, hq1.may⟩ (by rw [hc1]; simp [itmC, mk]) (by rw [hn1]; rfl)
        · have hk := hK (n - 1) (n - 1) (by omega) ⟨rfl, by omega, by omega, fun h => absurd h hst, hall⟩
          rcases hcb3 with hcb3 | hcb3 | hcb3
          all_goals
            repeat' (first | refine cseq ?_ | refine rtext ?_ | refine ctrue rfl ?_ | refine cfalse rfl ?_ | refine cskip ?_ | refine cblk ?_ | refine tnorm ?_ | refine jnil ?_ | (first | refine js rfl rfl ?_ | refine jmv rfl rfl rfl ?_ | refine jy (ynil rfl) rfl rfl ?_ | (show Jo _ (.fieldAddr _ _ _); refine jy (yfield rfl (by first | exact fb110_0 | exact fb110_4) rfl) rfl rfl ?_) | (show Jo _ (.load _ _); first | refine jy (yload (i := 0) rfl rfl rfl one101) rfl rfl ?_ | refine jy (yload (i := 1) rfl rfl rfl one101) rfl rfl ?_ | refine jy (yloadr (i := 2) rfl rfl hby one5) rfl rfl ?_) | refine jas_ rfl rfl rfl ?_ | (show Jo _ (.binOp _ _ _ _ _); first | (show Jo (some 21) _; refine jy (ysub (c := ((n - 1 : Nat) : Int) - 1) rfl rfl (by rw [i64_in (by omega) (by omega)]; omega)) rfl rfl ?_) | (show Jo _ (.binOp .neq _ _ _ _); refine jy (yneq rfl rfl (by first | exact decide_eq_true (by omega) | exact decide_eq_false (by omega))) rfl rfl ?_) | refine jy (yeql rfl rfl (by (exact decide_eq_false (by omega)))) rfl rfl ?_ | refine jy (ygeq rfl rfl (by (exact decide_eq_true (by omega)))) rfl rfl ?_) | (show Jo _ (.pick _ _ _); first | refine jy (ypick1 rfl rfl) rfl rfl ?_ | refine jy (ypick0 rfl rfl) rfl rfl ?_) | (show Jo _ (.indexAddr 62 _ _); refine jy (yat (p' := ⟨H.gI, n - 1, none⟩) rfl rfl und59 sz5 (by omega) (by omega) (by rw [add_lit]; congr 1; omega)) rfl rfl ?_)))
            exact fin hk ⟨rfl, rfl, rfl, trivial⟩ rfl
      · have hcb' : isBl (H.s.getD (n - 1) 0) = false := Bool.eq_false_iff.2 hcb
        have hcb4 : fbN H.s (n - 1) ≠ 32 ∧ fbN H.s (n - 1) ≠ 9 ∧ fbN H.s (n - 1) ≠ 13 := by
          unfold isBl at hcb'
          simp only [Bool.or_eq_false_iff, beq_eq_false_iff_ne] at hcb'
          obtain ⟨⟨h1, h2⟩, h3⟩ := hcb'
          rw [hfb]
          exact ⟨fun h => h1 (UInt8.toNat_inj.1 h), fun h => h2 (UInt8.toNat_inj.1 h), fun h => h3 (UInt8.toNat_inj.1 h)⟩
        by_cases hnl : fbN H.s (n - 1) = 10
        · have hnl' : H.s.getD (n - 1) 0 = 10 := UInt8.toNat_inj.1 hnl
          by_cases hla : n = l.pos
          · have e1 : txts H.s l.start l.pos = [mk 18 l.start l.pos] := txts_a (i := n - 1) (by omega) (by omega) hp hbl' hcb' (.inr (by omega))
            rw [e1]
            rcases Decidable.em ((n : Int) - 1 = l.start) with hst | hst
            all_goals
              repeat' (first | (show PJ _ (Code.wp _ _ _) _ _; first | refine cseq ?_ | refine rtext ?_ | refine ctrue rfl ?_ | refine cfalse rfl ?_ | refine cskip ?_ | refine cblk ?_ | refine cexit ?_ | (show PJ _ (Code.wp _ (Code.region 14 _ true) _) _ _; refine rtail 11 mixed (by kernel_rfl) ?_)) | (show PJ _ (wpList _ _ _ _) _ _; refine jlist ?_) | refine jnil ?_ | (first | refine js rfl rfl ?_ | refine jmv rfl rfl rfl ?_ | refine jy (ynil rfl) rfl rfl ?_ | (show Jo _ (.fieldAddr _ _ _); refine jy (yfield rfl (by first | exact fb110_3 | exact fb110_0 | exact fb110_4) rfl) rfl rfl ?_) | (show Jo _ (.load _ _); first | refine jy (yload (i := 0) rfl rfl rfl one101) rfl rfl ?_ | refine jy (yload (i := 1) rfl rfl rfl one101) rfl rfl ?_ | refine jy (yloadr (i := 2) rfl rfl hby one5) rfl rfl ?_) | refine jas_ rfl rfl rfl ?_ | (show Jo _ (.binOp _ _ _ _ _); first | refine jy (ysub (c := (l.pos : Int) - 1) rfl rfl (by exact i64_in (by omega) (by omega))) rfl rfl ?_ | (show Jo _ (.binOp .neq _ _ _ _); refine jy (yneq rfl rfl (by first | exact decide_eq_true (by omega) | exact decide_eq_false (by omega))) rfl rfl ?_) | refine jy (ylss rfl rfl (by (exact decide_eq_false (by omega)))) rfl rfl ?_ | refine jy (yeql rfl rfl (by first | exact decide_eq_true (by omega) | exact decide_eq_false (by omega))) rfl rfl ?_ | refine jy (ygeq rfl rfl (by (exact decide_eq_true (by omega)))) rfl rfl ?_) | (show Jo _ (.pick _ _ _); first | refine jy (ypick1 rfl rfl) rfl rfl ?_ | refine jy (ypick0 rfl rfl) rfl rfl ?_) | (show Jo _ (.call _); ((show Jo (some 116) (.call _); refine jcall (ι := RS) (vs := [pL H, .agg (itC 18 .nilIface l.start l.pos (.slice none 0 0) 0 false).toArray]) (v := fun _ => .tuple #[]) (m' := fun q' => bB gb H :: lB H { l with its := q'.val } :: iB H :: qB q' :: E) (fun q' => QOk _ q' ∧ q'.ics = q.ics ++ itC 18 .nilIface l.start l.pos (.slice none 0 0) (fbN H.s l.start) false ∧ q'.n = q.n + 1) bo129 rfl rfl rfl (fun w' hw' => (append_calls (E := bB gb H :: E) hX l q hq hl (by omega) (posIn0 _ _) rfl rfl w' (hw'.perm (List.perm_middle (l₁ := [lB H l, iB H, qB q])).symm)).mono fun e w'' h => by obtain ⟨q', h1, h2, h3, h4, h5⟩ := h; exact ⟨q', h1, h2.perm (List.perm_middle (l₁ := [lB H { l with its := q'.val }, iB H, qB q'])), h3, h4, h5⟩) (fun q1 hq1 => ?_); obtain ⟨hq1, hc1, hn1⟩ := hq1))) | (show Jo _ (.indexAddr 62 _ _); refine jy (yat (p' := ⟨H.gI, n - 1, none⟩) rfl rfl und59 sz5 (by omega) (by omega) (by rw [add_lit]; congr 1; omega)) rfl rfl ?_) | (show Jo _ (.build 78 _); refine jy (ybuild rfl (bu88 _ _ _)) rfl rfl ?_)))
              exact emit_end hw hX0 (.inr rfl) ⟨hq1.ok, hq1.may⟩ (by rw [hc1]; simp [itmC, mk]) (by rw [hn1]; rfl)
          · have e1 : txts H.s l.start l.pos = [mk 18 l.start (n - 1 + 1), mk 17 (n - 1 + 1) l.pos] := txts_nl (by omega) (by omega) hp hbl' hnl'
            rw [e1]
            rcases Decidable.em ((n : Int) - 1 = l.start) with hst | hst
            all_goals
              repeat' (first | (show PJ _ (Code.wp _ _ _) _ _; first | refine cseq ?_ | refine rtext ?_ | refine ctrue rfl ?_ | refine cfalse rfl ?_ | refine cskip ?_ | refine cblk ?_ | refine cret ?_ | (show PJ _ (Code.wp _ (Code.region 11 _ true) _) _ _; refine rtail 9 mixed (by kernel_rfl) ?_) | (show PJ _ (Code.wp _ (Code.region 12 _ true) _) _ _; refine rtail 8 mixed (by kernel_rfl) ?_)) | refine tret ?_ | refine bret ?_ | (show PJ _ (wpList _ _ _ _) _ _; refine jlist ?_) | refine jnil ?_ | (first | refine js rfl rfl ?_ | refine jmv rfl rfl rfl ?_ | refine jy (ynil rfl) rfl rfl ?_ | (show Jo _ (.fieldAddr _ _ _); refine jy (yfield rfl (by first | exact fb110_3 | exact fb110_0 | exact fb110_4) rfl) rfl rfl ?_) | (show Jo _ (.load _ _); first | refine jy (yload (i := 0) rfl rfl rfl one101) rfl rfl ?_ | refine jy (yload (i := 1) rfl rfl rfl one101) rfl rfl ?_ | refine jy (yloadr (i := 2) rfl rfl hby one5) rfl rfl ?_) | refine jas_ rfl rfl rfl ?_ | (show Jo _ (.binOp _ _ _ _ _); first | refine jy (ysub (c := (l.pos : Int) - 1) rfl rfl (by exact i64_in (by omega) (by omega))) rfl rfl ?_ | refine jy (yadd (c := ((n - 1 + 1 : Nat) : Int)) rfl rfl (by rw [i64_in (by omega) (by omega)]; omega)) rfl rfl ?_ | (show Jo _ (.binOp .neq _ _ _ _); refine jy (yneq rfl rfl (by first | exact decide_eq_true (by omega) | exact decide_eq_false (by omega))) rfl rfl ?_) | refine jy (ylss rfl rfl (by (exact decide_eq_true (by omega)))) rfl rfl ?_ | refine jy (yeql rfl rfl (by first | exact decide_eq_true (by omega) | exact decide_eq_false (by omega))) rfl rfl ?_ | refine jy (ygeq rfl rfl (by (exact decide_eq_true (by omega)))) rfl rfl ?_) | (show Jo _ (.pick _ _ _); first | refine jy (ypick1 rfl rfl) rfl rfl ?_ | refine jy (ypick0 rfl rfl) rfl rfl ?_) | (show Jo _ (.call _); first | (show Jo (some 84) (.call _); refine jcall (ι := RS) (vs := [pL H, .agg (itC 18 .nilIface l.start (n - 1 + 1) (.slice none 0 0) 0 false).toArray]) (v := fun _ => .tuple #[]) (m' := fun q' => bB gb H :: lB H { l with its := q'.val } :: iB H :: qB q' :: E) (fun q' => QOk _ q' ∧ q'.ics = q.ics ++ itC 18 .nilIface l.start (n - 1 + 1) (.slice none 0 0) (fbN H.s l.start) false ∧ q'.n = q.n + 1) bo129 rfl rfl rfl (fun w' hw' => (append_calls (E := bB gb H :: E) hX l q hq hl (by omega) (posIn0 _ _) rfl rfl w' (hw'.perm (List.perm_middle (l₁ := [lB H l, iB H, qB q])).symm)).mono fun e w'' h => by obtain ⟨q', h1, h2, h3, h4, h5⟩ := h; exact ⟨q', h1, h2.perm (List.perm_middle (l₁ := [lB H { l with its := q'.val }, iB H, qB q'])), h3, h4, h5⟩) (fun q1 hq1 => ?_); obtain ⟨hq1, hc1, hn1⟩ := hq1) | (show Jo (some 93) (.call _); refine jcall (ι := RS) (vs := [pL H, .agg (itC 17 .nilIface (n - 1 + 1) l.pos (.slice none 0 0) 0 false).toArray]) (v := fun _ => .tuple #[]) (m' := fun q' => bB gb H :: lB H { l with its := q'.val } :: iB H :: qB q' :: E) (fun q' => QOk _ q' ∧ q'.ics = q1.ics ++ itC 17 .nilIface (n - 1 + 1) l.pos (.slice none 0 0) (fbN H.s (n - 1 + 1)) false ∧ q'.n = q1.n + 1) bo129 rfl rfl rfl (fun w' hw' => (append_calls (E := bB gb H :: E) hX { l with its := q1.val } q1 hq1 rfl (by omega) (posIn0 _ _) rfl rfl w' (hw'.perm (List.perm_middle (l₁ := [lB H { l with its := q1.val }, iB H, qB q1])).symm)).mono fun e w'' h => by obtain ⟨q', h1, h2, h3, h4, h5⟩ := h; exact ⟨q', h1, h2.perm (List.perm_middle (l₁ := [lB H { l with its := q'.val }, iB H, qB q'])), h3, h4, h5⟩) (fun q2 hq2 => ?_); obtain ⟨hq2, hc2, hn2⟩ := hq2)) | (show Jo _ (.indexAddr 62 _ _); refine jy (yat (p' := ⟨H.gI, n - 1, none⟩) rfl rfl und59 sz5 (by omega) (by omega) (by rw [add_lit]; congr 1; omega)) rfl rfl ?_) | (show Jo _ (.build 78 _); refine jy (ybuild rfl (bu88 _ _ _)) rfl rfl ?_)))
              exact emit_end hw hX0 (.inl rfl) ⟨hq2.ok, hq2.may⟩ (by rw [hc2, hc1]; simp [itmC, mk]) (by rw [hn2, hn1]; rfl)
        · have e1 : txts H.s l.start l.pos = [mk 18 l.start l.pos] := txts_a (i := n - 1) (by omega) (by omega) hp hbl' hcb' (.inl (fun h => hnl (by rw [hfb, h]; rfl)))
          rw [e1]
          repeat' (first | (show PJ _ (Code.wp _ _ _) _ _; first | refine cseq ?_ | refine rtext ?_ | refine ctrue rfl ?_ | refine cskip ?_ | refine cblk ?_ | refine cexit ?_ | (show PJ _ (Code.wp _ (Code.region 14 _ true) _) _ _; refine rtail 11 mixed (by kernel_rfl) ?_)) | (show PJ _ (wpList _ _ _ _) _ _; refine jlist ?_) | refine jnil ?_ | (first | refine jmv rfl rfl rfl ?_ | refine jy (ynil rfl) rfl rfl ?_ | (show Jo _ (.fieldAddr _ _ _); refine jy (yfield rfl (by first | exact fb110_3 | exact fb110_0 | exact fb110_4) rfl) rfl rfl ?_) | (show Jo _ (.load _ _); first | refine jy (yload (i := 0) rfl rfl rfl one101) rfl rfl ?_ | refine jy (yload (i := 1) rfl rfl rfl one101) rfl rfl ?_ | refine jy (yloadr (i := 2) rfl rfl hby one5) rfl rfl ?_) | refine jas_ rfl rfl rfl ?_ | (show Jo _ (.binOp _ _ _ _ _); first | (show Jo _ (.binOp .neq _ _ _ _); refine jy (yneq rfl rfl (by (exact decide_eq_true (by omega)))) rfl rfl ?_) | refine jy (ygeq rfl rfl (by (exact decide_eq_true (by omega)))) rfl rfl ?_) | (show Jo _ (.pick _ _ _); refine jy (ypick1 rfl rfl) rfl rfl ?_) | (show Jo _ (.call _); ((show Jo (some 116) (.call _); refine jcall (ι := RS) (vs := [pL H, .agg (itC 18 .nilIface l.start l.pos (.slice none 0 0) 0 false).toArray]) (v := fun _ => .tuple #[]) (m' := fun q' => bB gb H :: lB H { l with its := q'.val } :: iB H :: qB q' :: E) (fun q' => QOk _ q' ∧ q'.ics = q.ics ++ itC 18 .nilIface l.start l.pos (.slice none 0 0) (fbN H.s l.start) false ∧ q'.n = q.n + 1) bo129 rfl rfl rfl (fun w' hw' => (append_calls (E := bB gb H :: E) hX l q hq hl (by omega) (posIn0 _ _) rfl rfl w' (hw'.perm (List.perm_middle (l₁ := [lB H l, iB H, qB q])).symm)).mono fun e w'' h => by obtain ⟨q', h1, h2, h3, h4, h5⟩ := h; exact ⟨q', h1, h2.perm (List.perm_middle (l₁ := [lB H { l with its := q'.val }, iB H, qB q'])), h3, h4, h5⟩) (fun q1 hq1 => ?_); obtain ⟨hq1, hc1, hn1⟩ := hq1))) | (show Jo _ (.indexAddr 62 _ _); refine jy (yat (p' := ⟨H.gI, n - 1, none⟩) rfl rfl und59 sz5 (by omega) (by omega) (by rw [add_lit]; congr 1; omega)) rfl rfl ?_) | (show Jo _ (.build 78 _); refine jy (ybuild rfl (bu88 _ _ _)) rfl rfl ?_)))
          exact emit_end hw hX0 (.inr rfl) ⟨hq1.ok, hq1.may⟩ (by rw [hc1]; simp [itmC, mk]) (by rw [hn1]; rfl)
    · have hnn : n = l.start := by omega
      have hpp := hj3 hnn
      have e1 : txts H.s l.start l.pos = [mk 18 l.start l.pos] := by rw [← hpp]; exact txts_e _ _
      rw [e1]
      repeat' (first | (show PJ _ (Code.wp _ _ _) _ _; first | refine cseq ?_ | refine rtext ?_ | refine cfalse rfl ?_ | refine cexit ?_ | (show PJ _ (Code.wp _ (Code.region 14 _ true) _) _ _; refine rtail 11 mixed (by kernel_rfl) ?_)) | (show PJ _ (wpList _ _ _ _) _ _; refine jlist ?_) | refine jnil ?_ | (first | refine jmv rfl rfl rfl ?_ | refine jy (ynil rfl) rfl rfl ?_ | (show Jo _ (.fieldAddr _ _ _); refine jy (yfield rfl (by first | exact fb110_3 | exact fb110_4) rfl) rfl rfl ?_) | (show Jo _ (.load _ _); first | refine jy (yload (i := 0) rfl rfl rfl one101) rfl rfl ?_ | refine jy (yload (i := 1) rfl rfl rfl one101) rfl rfl ?_) | (show Jo _ (.binOp _ _ _ _ _); refine jy (ygeq rfl rfl (by (exact decide_eq_false (by omega)))) rfl rfl ?_) | (show Jo _ (.call _); ((show Jo (some 116) (.call _); refine jcall (ι := RS) (vs := [pL H, .agg (itC 18 .nilIface l.start l.pos (.slice none 0 0) 0 false).toArray]) (v := fun _ => .tuple #[]) (m' := fun q' => bB gb H :: lB H { l with its := q'.val } :: iB H :: qB q' :: E) (fun q' => QOk _ q' ∧ q'.ics = q.ics ++ itC 18 .nilIface l.start l.pos (.slice none 0 0) (fbN H.s l.start) false ∧ q'.n = q.n + 1) bo129 rfl rfl rfl (fun w' hw' => (append_calls (E := bB gb H :: E) hX l q hq hl (by omega) (posIn0 _ _) rfl rfl w' (hw'.perm (List.perm_middle (l₁ := [lB H l, iB H, qB q])).symm)).mono fun e w'' h => by obtain ⟨q', h1, h2, h3, h4, h5⟩ := h; exact ⟨q', h1, h2.perm (List.perm_middle (l₁ := [lB H { l with its := q'.val }, iB H, qB q'])), h3, h4, h5⟩) (fun q1 hq1 => ?_); obtain ⟨hq1, hc1, hn1⟩ := hq1))) | (show Jo _ (.build 78 _); refine jy (ybuild rfl (bu88 _ _ _)) rfl rfl ?_)))
      exact emit_end hw hX0 (.inr rfl) ⟨hq1.ok, hq1.may⟩ (by rw [hc1]; simp [itmC, mk]) (by rw [hn1]; rfl)
  · have e0 : emI H.s t l.start l.pos = [mk t l.start l.pos] := if_neg ht
    rw [e0]
    have ht' : (t : Int) ≠ 18 := by omega
    repeat' (first | (show PJ _ (Code.wp _ _ _) _ _; first | refine cseq ?_ | refine rtext ?_ | refine cfalse rfl ?_ | refine cskip ?_ | (show PJ _ (Code.wp _ (Code.region 14 _ true) _) _ _; refine rtail 11 mixed (by kernel_rfl) ?_)) | (show PJ _ (wpList _ _ _ _) _ _; refine jlist ?_) | refine jnil ?_ | (first | refine jmv rfl rfl rfl ?_ | refine jy (ynil rfl) rfl rfl ?_ | (show Jo _ (.fieldAddr _ _ _); refine jy (yfield rfl (by first | exact fb110_3 | exact fb110_4) rfl) rfl rfl ?_) | (show Jo _ (.load _ _); first | refine jy (yload (i := 0) rfl rfl rfl one101) rfl rfl ?_ | refine jy (yload (i := 1) rfl rfl rfl one101) rfl rfl ?_) | (show Jo _ (.binOp _ _ _ _ _); refine jy (yeql rfl rfl (by (exact decide_eq_false (by omega)))) rfl rfl ?_) | (show Jo _ (.call _); ((show Jo (some 116) (.call _); refine jcall (ι := RS) (vs := [pL H, .agg (itC t .nilIface l.start l.pos (.slice none 0 0) 0 false).toArray]) (v := fun _ => .tuple #[]) (m' := fun q' => bB gb H :: lB H { l with its := q'.val } :: iB H :: qB q' :: E) (fun q' => QOk _ q' ∧ q'.ics = q.ics ++ itC t .nilIface l.start l.pos (.slice none 0 0) (fbN H.s l.start) false ∧ q'.n = q.n + 1) bo129 rfl rfl rfl (fun w' hw' => (append_calls (E := bB gb H :: E) hX l q hq hl (by omega) (posIn0 _ _) rfl rfl w' (hw'.perm (List.perm_middle (l₁ := [lB H l, iB H, qB q])).symm)).mono fun e w'' h => by obtain ⟨q', h1, h2, h3, h4, h5⟩ := h; exact ⟨q', h1, h2.perm (List.perm_middle (l₁ := [lB H { l with its := q'.val }, iB H, qB q'])), h3, h4, h5⟩) (fun q1 hq1 => ?_); obtain ⟨hq1, hc1, hn1⟩ := hq1))) | (show Jo _ (.box 83 _); refine jbox (c := [pL H]) rfl rfl rfl (fun gb hTb => ?_)) | (show Jo _ (.makeFunc _ _ _); refine jy (ymakeFunc rfl rfl) rfl rfl ?_) | (show Jo _ (.defer _); refine jdefC (us := [.pointer (some ⟨gb, 0, none⟩)]) rfl ?_; replace hX := Ok.cx 117 [⟨.fn (.func 111) #[.pointer (some ⟨gb, 0, none⟩)], #[]⟩] hX; replace hq := QOk.cx 117 [⟨.fn (.func 111) #[.pointer (some ⟨gb, 0, none⟩)], #[]⟩] hq) | (show Jo _ (.build 78 _); refine jy (ybuild rfl (bu88 _ _ _)) rfl rfl ?_)))
    exact emit_end hw hX0 (.inr rfl) ⟨hq1.ok, hq1.may⟩ (by rw [hc1]; simp [itmC, mk]) (by rw [hn1]; rfl)
end Go.Proofs.YtkehggbmpdacpabGreatDoor.Pg
