/- The page laws: texts that all of them use, joined (part 15): LwAsc, LwNm, Sp1, Pg58, Pg59, Pl1, Pg60. -/
import Derived.Test.YtkehggbmpdacpaaGreatDoorKp12
import Derived.Test.YtkehggbmpdacpaaGreatDoorKp14
set_option maxRecDepth 100000
set_option linter.unusedVariables false
set_option linter.unusedSimpArgs false
set_option linter.unusedSectionVars false
namespace Go.Proofs.YtkehggbmpdacpaaGreatDoor.Lw
open Go.Rx
open Go.RowKit Go.Proofs.YtkehggbmpdacpaaGreatDoor.Dec0 Go.Proofs.YtkehggbmpdacpaaGreatDoor.Txt0
theorem drop_bt {s : ByteArray} {j : Nat} (h : j < s.size) : ∃ c : UInt8, s.data.toList.drop j = c :: s.data.toList.drop (j + 1) ∧ Rx.bt s (j : Nat) = (c.toNat : Int) := by
  have hl : j < s.data.toList.length := by rw [size_list]; exact h
  refine ⟨s.data.toList[j], List.drop_eq_getElem_cons hl, ?_⟩
  unfold Rx.bt
  rw [dif_pos (by simpa using h)]
  simp only [Int.toNat_natCast, Array.getElem_toList]
  rfl
theorem boAsc : bodyB Tryz.prog 52 = true := by kernel_rfl
set_option maxHeartbeats 1000000 in
theorem ascii_calls (s : ByteArray) (w : World) (hs : s.size ≤ 4611686018427387904) : Calls Tryz.prog 52 #[.string s] w fun e w' => e = .returned (.bool (s.data.toList.all isAsc)) ∧ Below w.heap.size w w' := by
  refine enter (fun _ => False) 32 [] Tryz.func52 rfl rfl rfl (vs := [.string s]) (Has.nil _) ?_
  conv => arg 2; arg 2; whnf
  have post : ∀ (f : Fr) (m : Mem) (b : Bool), s.data.toList.all isAsc = b → Rx.look f 2 = some (.bool b) → PJ ⟨32, [], fun _ => False, w⟩ (bodyPost Tryz.prog Tryz.f52 (fun e w' => e = .returned (.bool (s.data.toList.all isAsc)) ∧ Below w.heap.size w w') .ret) f m := fun f m b hb hf => by
    subst hb
    exact ret1 rfl rfl hf (fun w' hw' => ⟨rfl, hw'.2.below (fun k _ h => h) (Nat.le_refl _)⟩)
  repeat' (first | refine cseq ?_ | refine rtext ?_ | refine cblk ?_ | refine jnil ?_ | ((refine jas_ rfl rfl rfl ?_)))
  refine fin (f' := [(0, .string s), (3, .int .i64 (0 : Nat))]) (m' := [])
    (cloop (ι := Nat) (fun j => [(0, .string s), (3, .int .i64 (j : Nat))]) (fun _ => []) (fun k j => k = s.size - j ∧ j ≤ s.size ∧ s.data.toList.all isAsc = (s.data.toList.drop j).all isAsc) s.size 0 ⟨rfl, by omega, rfl⟩ ?_) ⟨rfl, rfl, trivial⟩ rfl
  rintro k j ⟨rfl, hj, heq⟩ K hK
  by_cases hlt : j < s.size
  case neg =>
    obtain rfl : j = s.size := by omega
    rw [List.drop_eq_nil_of_le (by rw [size_list]; exact Nat.le_refl _)] at heq
    repeat' (first | refine cseq ?_ | refine rtext ?_ | refine cfalse rfl ?_ | refine cret ?_ | refine cexit ?_ | refine jnil ?_ | (first | refine jmv rfl rfl rfl ?_ | refine jas_ rfl rfl rfl ?_ | (show Jo _ (.binOp _ _ _ _ _); (refine jy (ylss rfl rfl (by (exact decide_eq_false (by omega)))) rfl rfl ?_)) | (show Jo _ (.call _); ((show Jo _ (.call ⟨.builtin .len, _, _⟩); refine jy (ylens rfl und9) rfl rfl ?_)))))
    exact post _ _ true heq rfl
  obtain ⟨c, hd, hb⟩ := drop_bt hlt
  rw [hd, List.all_cons] at heq
  have hT : 32 ≤ c.toNat ∧ c.toNat ≤ 126 ∨ c.toNat = 10 ∨ c.toNat = 9 → isAsc c = true := by
    intro h
    unfold isAsc
    rcases h with ⟨h1, h2⟩ | h | h
    · simp [h1, h2]
    · simp [h]
    · simp [h]
  have hF : ¬ (32 ≤ c.toNat ∧ c.toNat ≤ 126 ∨ c.toNat = 10 ∨ c.toNat = 9) → isAsc c = false := by
    intro h
    unfold isAsc
    simp
    omega
  repeat' (first | refine cseq ?_ | refine rtext ?_ | refine ctrue rfl ?_ | refine cfalse rfl ?_ | refine cskip ?_ | refine cblk ?_ | refine cret ?_ | refine tnorm ?_ | refine tret ?_ | refine bret ?_ | refine jnil ?_ | (first | refine js rfl rfl ?_ | refine jmv rfl rfl rfl ?_ | refine jas_ rfl rfl rfl ?_ | (show Jo _ (.binOp _ _ _ _ _); first | refine jy (yadd (c := ((j + 1 : Nat) : Int)) rfl rfl (by rw [i64_in (by omega) (by omega)]; omega)) rfl rfl ?_ | (show Jo _ (.binOp .gtr _ _ _ _); (refine jgtr rfl rfl rfl rfl (fun hq => ?_) (fun hq => ?_))) | (show Jo _ (.binOp .neq _ _ _ _); (refine jneq rfl rfl rfl rfl (fun hq => ?_) (fun hq => ?_))) | refine jy (ylss rfl rfl (by (exact decide_eq_true (by omega)))) rfl rfl ?_ | refine jlss rfl rfl rfl rfl (fun hq => ?_) (fun hq => ?_)) | (show Jo _ (.pick _ _ _); first | refine jy (ypick1 rfl rfl) rfl rfl ?_ | refine jy (ypick0 rfl rfl) rfl rfl ?_) | (show Jo _ (.index _ _ _); refine jy (yidx (c := bt _ _) rfl rfl und9 (by omega) (by omega) rfl) rfl rfl ?_) | (show Jo _ (.call _); ((show Jo _ (.call ⟨.builtin .len, _, _⟩); refine jy (ylens rfl und9) rfl rfl ?_)))))
  all_goals first
    | exact post _ _ false (by rw [heq, hF (by omega)]; simp) rfl
    | exact fin (hK (s.size - (j + 1)) (j + 1) (by omega) ⟨rfl, by omega, by rw [heq, hT (by omega), Bool.true_and]⟩) ⟨rfl, rfl, trivial⟩ rfl
theorem ascii_in {X : Cx} {m : Mem} {s : ByteArray} (hs : s.size ≤ 4611686018427387904) : ∀ w, Cl X m w → Calls Tryz.prog 52 #[.string s] w fun e w' => e = .returned (.bool (s.data.toList.all isAsc)) ∧ Cl X m w' :=
  quietC fun w _ => ascii_calls s w hs
theorem boNm : bodyB Tryz.prog 21 = true := by kernel_rfl
def NameF (s : ByteArray) : Prop := Lex0.NameT s.data.toList ∧ s.size < 100
theorem isN_of {c : UInt8} (h : 97 ≤ c.toNat ∧ c.toNat ≤ 122 ∨ 48 ≤ c.toNat ∧ c.toNat ≤ 57 ∨ c.toNat = 95 ∨ c.toNat = 45 ∨ c.toNat = 47) : Lex0.isN c = true := by
  unfold Lex0.isN Lex0.isW
  simp only [Bool.or_eq_true, Bool.and_eq_true, decide_eq_true_eq, beq_iff_eq]
  omega
theorem isW_of {c : UInt8} (h : 97 ≤ c.toNat ∧ c.toNat ≤ 122 ∨ 48 ≤ c.toNat ∧ c.toNat ≤ 57 ∨ c.toNat = 95) : Lex0.isW c = true := by
  unfold Lex0.isW
  simp only [Bool.or_eq_true, Bool.and_eq_true, decide_eq_true_eq, beq_iff_eq]
  omega
theorem pos_of_ne {s : ByteArray} (h : ¬ s = ⟨#[]⟩) : 0 < s.size := by
  rcases Nat.eq_zero_or_pos s.size with h0 | h0
  · refine absurd ?_ h
    rw [data_inj]
    exact List.length_eq_zero_iff.1 (by rw [size_list]; exact h0)
  · exact h0
theorem ne_list {s : ByteArray} (h : ¬ s = ⟨#[]⟩) : s.data.toList ≠ [] := fun e => h (by rw [data_inj]; exact e)
set_option maxHeartbeats 1000000 in
theorem named_calls (s : ByteArray) (w : World) (hs : s.size ≤ 4611686018427387904) : Calls Tryz.prog 21 #[.string s] w fun e w' => ∃ b, e = .returned (.bool b) ∧ Below w.heap.size w w' ∧ (b = true → NameF s) := by
  refine enter (fun _ => False) 64 [] Tryz.func21 rfl rfl rfl (vs := [.string s]) (Has.nil _) ?_
  conv => arg 2; arg 2; whnf
  have post : ∀ (f : Fr) (m : Mem) (b : Bool), (b = true → NameF s) → Rx.look f 2 = some (.bool b) → PJ ⟨64, [], fun _ => False, w⟩ (bodyPost Tryz.prog Tryz.f21 (fun e w' => ∃ b, e = .returned (.bool b) ∧ Below w.heap.size w w' ∧ (b = true → NameF s)) .ret) f m := fun f m b hb hf =>
    ret1 rfl rfl hf (fun w' hw' => ⟨b, rfl, hw'.2.below (fun k _ h => h) (Nat.le_refl _), hb⟩)
  repeat' (first | refine cseq ?_ | refine rtext ?_ | refine cblk ?_ | refine jnil ?_ | ((refine jas_ rfl rfl rfl ?_)))
  refine fin (f' := [(0, .string s), (3, .int .i64 (0 : Nat))]) (m' := [])
    (cloop (ι := Nat) (fun j => [(0, .string s), (3, .int .i64 (j : Nat))]) (fun _ => []) (fun k j => k = s.size - j ∧ j ≤ s.size ∧ ∀ (i : Nat) c, i < j → s.data.toList[i]? = some c → Lex0.isN c = true ∧ (i = 0 → Lex0.isW c = true)) s.size 0 ⟨rfl, by omega, fun i c h => absurd h (Nat.not_lt_zero _)⟩ ?_) ⟨rfl, rfl, trivial⟩ rfl
  rintro k j ⟨rfl, hj, hI⟩ K hK
  by_cases hlt : j < s.size
  case neg =>
    obtain rfl : j = s.size := by omega
    repeat' (first | refine cseq ?_ | refine rtext ?_ | refine cfalse rfl ?_ | refine cret ?_ | refine cexit ?_ | refine jnil ?_ | (first | refine js rfl rfl ?_ | refine jmv rfl rfl rfl ?_ | refine jas_ rfl rfl rfl ?_ | (show Jo _ (.binOp _ _ _ _ _); first | (show Jo _ (.binOp .neq 5 _ _ _); (refine jneq rfl rfl rfl rfl (fun hq => ?_) (fun hq => ?_))) | (show Jo _ (.binOp .neq 9 _ _ _); refine jsneq rfl rfl rfl rfl (fun hne => ?_) (fun hne => ?_)) | (show Jo _ (.binOp .sub _ _ _ _); refine jy (ysub (c := ((s.size - 1 : Nat) : Int)) rfl rfl (by have hz := pos_of_ne hne; rw [i64_in (by omega) (by omega)]; omega)) rfl rfl ?_) | refine jy (ylss rfl rfl (by (exact decide_eq_false (by omega)))) rfl rfl ?_ | refine jlss rfl rfl rfl rfl (fun hq => ?_) (fun hq => ?_)) | (show Jo _ (.pick _ _ _); first | refine jy (ypick1 rfl rfl) rfl rfl ?_ | refine jy (ypick0 rfl rfl) rfl rfl ?_) | (show Jo _ (.call _); ((show Jo _ (.call ⟨.builtin .len, _, _⟩); refine jy (ylens rfl und9) rfl rfl ?_))) | (show Jo _ (.index 9 _ (.const _)); refine jy (yidx (c := Rx.bt s (0 : Nat)) rfl rfl und9 (by omega) (by have hz := pos_of_ne hne; omega) rfl) rfl rfl ?_) | (show Jo _ (.index 9 _ _); (refine jy (yidx (c := Rx.bt _ _) rfl rfl und9 (by omega) (by have hz := pos_of_ne hne; omega) rfl) rfl rfl ?_))))
    all_goals first
      | exact post _ _ false (fun h => by cases h) rfl
      | (refine post _ _ true (fun _ => ⟨⟨ne_list hne, fun c hc => ?_, fun c hc => ?_⟩, by omega⟩) rfl
         · exact (hI 0 c (pos_of_ne hne) (by rw [← List.head?_eq_getElem?]; exact hc)).2 rfl
         · obtain ⟨i, hi, he⟩ := List.mem_iff_getElem.1 hc
           exact (hI i c (by rw [← size_list]; exact hi) (by rw [List.getElem?_eq_getElem hi, he])).1)
  obtain ⟨c, hd, hb⟩ := drop_bt hlt
  have hcj : s.data.toList[j]? = some c := by
    have := congrArg List.head? hd
    rwa [List.head?_drop] at this
  have hN : (97 ≤ c.toNat ∧ c.toNat ≤ 122 ∨ 48 ≤ c.toNat ∧ c.toNat ≤ 57 ∨ c.toNat = 95 ∨ (j ≠ 0 ∧ (c.toNat = 45 ∨ c.toNat = 47))) → ∀ (i : Nat) d, i < j + 1 → s.data.toList[i]? = some d → Lex0.isN d = true ∧ (i = 0 → Lex0.isW d = true) := by
    intro h i d hi hd'
    by_cases hij : i = j
    · subst hij
      rw [hcj] at hd'
      cases hd'
      exact ⟨isN_of (by omega), fun h0 => isW_of (by omega)⟩
    · exact hI i d (by omega) hd'
  repeat' (first | refine cseq ?_ | refine rtext ?_ | refine ctrue rfl ?_ | refine cfalse rfl ?_ | refine cskip ?_ | refine cblk ?_ | refine cret ?_ | refine tnorm ?_ | refine tret ?_ | refine bret ?_ | refine jnil ?_ | (first | refine js rfl rfl ?_ | refine jmv rfl rfl rfl ?_ | refine jas_ rfl rfl rfl ?_ | (show Jo _ (.binOp _ _ _ _ _); first | (show Jo _ (.binOp .add _ _ _ _); refine jy (yadd (c := ((j + 1 : Nat) : Int)) rfl rfl (by rw [i64_in (by omega) (by omega)]; omega)) rfl rfl ?_) | (show Jo _ (.binOp .gtr _ _ _ _); first | refine jy (ygtr rfl rfl (by (exact decide_eq_true (by omega)))) rfl rfl ?_ | refine jgtr rfl rfl rfl rfl (fun hq => ?_) (fun hq => ?_)) | (show Jo _ (.binOp .neq 5 _ _ _); first | refine jy (yneq rfl rfl (by (exact decide_eq_true (by omega)))) rfl rfl ?_ | refine jneq rfl rfl rfl rfl (fun hq => ?_) (fun hq => ?_)) | refine jy (ylss rfl rfl (by first | exact decide_eq_true (by omega) | exact decide_eq_false (by omega))) rfl rfl ?_ | refine jlss rfl rfl rfl rfl (fun hq => ?_) (fun hq => ?_) | refine jeql rfl rfl rfl rfl (fun hq => ?_) (fun hq => ?_)) | (show Jo _ (.pick _ _ _); first | refine jy (ypick1 rfl rfl) rfl rfl ?_ | refine jy (ypick0 rfl rfl) rfl rfl ?_) | (show Jo _ (.index _ _ _); refine jy (yidx (c := bt _ _) rfl rfl und9 (by omega) (by omega) rfl) rfl rfl ?_) | (show Jo _ (.call _); ((show Jo _ (.call ⟨.builtin .len, _, _⟩); refine jy (ylens rfl und9) rfl rfl ?_)))))
  all_goals first
    | exact post _ _ false (fun h => by cases h) rfl
    | exact fin (hK (s.size - (j + 1)) (j + 1) (by omega) ⟨rfl, by omega, hN (by omega)⟩) ⟨rfl, rfl, trivial⟩ rfl
theorem named_in {X : Cx} {m : Mem} {s : ByteArray} (hs : s.size ≤ 4611686018427387904) : ∀ w, Cl X m w → Calls Tryz.prog 21 #[.string s] w fun e w' => ∃ b, e = .returned (.bool b) ∧ Cl X m w' ∧ (b = true → NameF s) := fun w hw =>
  (named_calls s w hs).mono fun e w' ⟨b, h1, h2, h3⟩ => ⟨b, h1, hw.below h2, h3⟩
theorem boPw : bodyB Tryz.prog 43 = true := by kernel_rfl
theorem boPh : bodyB Tryz.prog 64 = true := by kernel_rfl
theorem boPs : bodyB Tryz.prog 66 = true := by kernel_rfl
theorem boSp : bodyB Tryz.prog 54 = true := by kernel_rfl
theorem grS : growB Tryz.prog 32 9 1 16 = true := by kernel_rfl
theorem isSp_eq {c : Nat} {b : Bool} (h : b = true ↔ (c = 32 ∨ 9 ≤ c ∧ c ≤ 13)) : b = Lex0.isSp c := by
  rw [Bool.eq_iff_iff, h]
  unfold Lex0.isSp
  simp only [Bool.or_eq_true, beq_iff_eq]
  omega
theorem pageWhite_calls (c : Nat) (w : World) : Calls Tryz.prog 43 #[.int .u8 (c : Nat)] w fun e w' => e = .returned (.bool (Lex0.isSp c)) ∧ Below w.heap.size w w' := by
  refine enter (fun _ => False) 13 [] Tryz.func43 rfl rfl rfl (vs := [.int .u8 (c : Nat)]) (Has.nil _) ?_
  conv => arg 2; arg 2; whnf
  have post : ∀ (f : Fr) (m : Mem) (b : Bool), (b = true ↔ (c = 32 ∨ 9 ≤ c ∧ c ≤ 13)) → Rx.look f 2 = some (.bool b) → PJ ⟨13, [], fun _ => False, w⟩ (bodyPost Tryz.prog Tryz.f43 (fun e w' => e = .returned (.bool (Lex0.isSp c)) ∧ Below w.heap.size w w') .ret) f m := fun f m b hb hf =>
    ret1 rfl rfl hf (fun w' hw' => ⟨by rw [isSp_eq hb], hw'.2.below (fun k _ h => h) (Nat.le_refl _)⟩)
  repeat' (first | refine cseq ?_ | refine rtext ?_ | refine cret ?_ | refine jnil ?_ | (first | refine js rfl rfl ?_ | refine jmv rfl rfl rfl ?_ | refine jas_ rfl rfl rfl ?_ | (show Jo _ (.binOp _ _ _ _ _); first | (show Jo _ (.binOp .leq _ _ _ _); (refine jleq rfl rfl rfl rfl (fun hq => ?_) (fun hq => ?_))) | refine jeql rfl rfl rfl rfl (fun hq => ?_) (fun hq => ?_) | refine jgeq rfl rfl rfl rfl (fun hq => ?_) (fun hq => ?_)) | (show Jo _ (.pick _ _ _); first | refine jy (ypick1 rfl rfl) rfl rfl ?_ | refine jy (ypick0 rfl rfl) rfl rfl ?_)))
  all_goals first
    | exact post _ _ true (by simp only [true_iff]; omega) rfl
    | exact post _ _ false (by simp only [Bool.false_eq_true, false_iff]; omega) rfl
theorem pageHas_calls (s x : ByteArray) (i : Nat) (w : World) (hs : s.size ≤ 4611686018427387904) (hi : i < s.size) (hx : x.size ≤ 4) (hne : i + x.size ≤ s.size → ¬ s.extract ((i : Nat) : Int).toNat ((i + x.size : Nat) : Int).toNat = x) :
    Calls Tryz.prog 64 #[.string s, .int .i64 (i : Nat), .string x] w fun e w' => e = .returned (.bool false) ∧ Below w.heap.size w w' := by
  refine enter (fun _ => False) 29 [] Tryz.func64 rfl rfl rfl (vs := [.string s, .int .i64 (i : Nat), .string x]) (Has.nil _) ?_
  conv => arg 2; arg 2; whnf
  repeat' (first | refine cseq ?_ | refine rtext ?_ | refine cret ?_ | refine jnil ?_ | (first | refine js rfl rfl ?_ | refine jmv rfl rfl rfl ?_ | refine jas_ rfl rfl rfl ?_ | (show Jo _ (.binOp _ _ _ _ _); first | (show Jo _ (.binOp .add _ _ _ _); refine jy (yadd (c := ((i + x.size : Nat) : Int)) rfl rfl (by rw [i64_in (by omega) (by omega)]; omega)) rfl rfl ?_) | (show Jo _ (.binOp .leq _ _ _ _); refine jleq rfl rfl rfl rfl (fun hq => ?_) (fun hq => ?_)) | (show Jo _ (.binOp .eql 9 _ _ _); refine jy (yseql (c := false) rfl rfl (decide_eq_false (hne (by omega)))) rfl rfl ?_) | refine jy (ygeq rfl rfl (by (exact decide_eq_true (by omega)))) rfl rfl ?_) | (show Jo _ (.pick _ _ _); first | refine jy (ypick1 rfl rfl) rfl rfl ?_ | refine jy (ypick0 rfl rfl) rfl rfl ?_) | (show Jo _ (.slice _ _ _ _ _); refine jy (yslice rfl rfl rfl und9 (by omega) (by omega) (by omega) rfl) rfl rfl ?_) | (show Jo _ (.call _); ((show Jo _ (.call ⟨.builtin .len, _, #[9]⟩); refine jy (ylens rfl und9) rfl rfl ?_)))))
  all_goals exact ret1 rfl rfl rfl (fun w' hw' => ⟨rfl, hw'.2.below (fun k _ h => h) (Nat.le_refl _)⟩)
def wideT : List (List UInt8) := [[194, 133], [194, 160], [225, 154, 128], [226, 128, 128], [226, 128, 129], [226, 128, 130], [226, 128, 131], [226, 128, 132], [226, 128, 133], [226, 128, 134], [226, 128, 135], [226, 128, 136], [226, 128, 137], [226, 128, 138], [226, 128, 168], [226, 128, 169], [226, 128, 175], [226, 129, 159], [227, 128, 128]]
def wides : List ByteArray := wideT.map Lex0.ba
theorem pageSpaces_in {X : Cx} {m : Mem} : ∀ w, Cl X m w → Calls Tryz.prog 66 #[] w fun e w' => ∃ g, e = .returned (.slice (some ⟨g, 0, none⟩) 19 19) ∧ Cl X ((g, strs wides, .c 9) :: m) w' ∧ True := by
  intro w hw
  refine enterC 2 hw Tryz.func66 rfl rfl (vs := []) rfl ?_
  conv => arg 2; arg 2; whnf
  repeat' (first | refine cseq ?_ | refine rtext ?_ | refine cret ?_ | refine jnil ?_ | (first | refine jas_ rfl rfl rfl ?_ | (show Jo _ (.buildSlice _ _ _); refine jlitN (vs := strs wides) (n := 19) (c := strs wides) rfl rfl rfl rfl grS rfl rfl rfl rfl (fun g hg => ?_))))
  exact ret1 rfl rfl rfl (fun w' hw' => ⟨g, rfl, hw.up hw', trivial⟩)
theorem add_at (g j : Nat) : (⟨g, 0, none⟩ : Addr).add (((j : Nat) : Int).toNat * 1) = ⟨g, j, none⟩ := by
  unfold Addr.add
  rw [Int.toNat_natCast, Nat.mul_one]
  by_cases h : j = 0
  · rw [if_pos h, h]
  · rw [if_neg h]
    dsimp only
    rw [Nat.zero_add]
theorem wide_at : ∀ t ∈ wideT, t.length ≤ 4 ∧ ∃ c, t.head? = some c ∧ 128 ≤ c.toNat := by
  intro t ht
  have h : wideT.all (fun t => decide (t.length ≤ 4) && (match t.head? with | none => false | some c => decide (128 ≤ c.toNat))) = true := by decide
  have := List.all_eq_true.1 h t ht
  simp only [Bool.and_eq_true, decide_eq_true_eq] at this
  refine ⟨this.1, ?_⟩
  cases t with
  | nil => exact absurd this.2 (by simp)
  | cons c t => exact ⟨c, rfl, by simpa using this.2⟩
theorem wide_ok {s x : ByteArray} {j i : Nat} (hx : wides[j]? = some x) (ha : ∀ c ∈ s.data.toList, c.toNat < 128) : x.size ≤ 4 ∧ (i + x.size ≤ s.size → ¬ s.extract ((i : Nat) : Int).toNat ((i + x.size : Nat) : Int).toNat = x) := by
  obtain ⟨t, ht, rfl⟩ := List.mem_map.1 (List.mem_of_getElem? hx)
  have h1 : t.length ≤ 4 ∧ ∃ c, t.head? = some c ∧ 128 ≤ c.toNat := wide_at t ht
  obtain ⟨h1, c, h2, h3⟩ := h1
  have hsz : (Lex0.ba t).size = t.length := rfl
  refine ⟨by rw [hsz]; exact h1, fun hi e => ?_⟩
  have hc : c ∈ (Lex0.ba t).data.toList := by
    show c ∈ t
    cases t with
    | nil => cases h2
    | cons a t => cases h2; exact List.mem_cons_self ..
  rw [← e, ext_list] at hc
  have := ha c (List.mem_of_mem_drop (List.mem_of_mem_take hc))
  omega
set_option maxHeartbeats 1000000 in
theorem pageSpace_calls (s : ByteArray) (w : World) (hs : s.size ≤ 4611686018427387904) (ha : ∀ c ∈ s.data.toList, c.toNat < 128) : Calls Tryz.prog 54 #[.string s] w fun e w' => e = .returned (.bool (Lex0.isSpT s.data.toList)) ∧ Below w.heap.size w w' := by
  refine enter (fun _ => False) 38 [] Tryz.func54 rfl rfl rfl (vs := [.string s]) (Has.nil _) ?_
  conv => arg 2; arg 2; whnf
  have post : ∀ (f : Fr) (m : Mem) (b : Bool), Lex0.isSpT s.data.toList = b → Rx.look f 2 = some (.bool b) → PJ ⟨38, [], fun _ => False, w⟩ (bodyPost Tryz.prog Tryz.f54 (fun e w' => e = .returned (.bool (Lex0.isSpT s.data.toList)) ∧ Below w.heap.size w w') .ret) f m := fun f m b hb hf => by
    subst hb
    exact ret1 rfl rfl hf (fun w' hw' => ⟨rfl, hw'.2.below (fun k _ h => h) (Nat.le_refl _)⟩)
  repeat' ((fail_if_success (show PJ _ (Code.wp _ (Code.loop _) _) _ _)); first | first | refine cseq ?_ | refine rtext ?_ | refine cblk ?_ | refine jnil ?_ | (first | refine jas_ rfl rfl rfl ?_ | (show Jo _ (.call _); ((show Jo _ (.call ⟨.value (.func 66), _, _⟩); refine jcall (ι := Nat) (v := fun g => .slice (some ⟨g, 0, none⟩) 19 19) (m' := fun g => (g, strs wides, .c 9) :: []) (fun _ => True) boPs rfl rfl rfl pageSpaces_in (fun g _ => ?_))))))
  refine fin (f' := [(0, .string s), (3, .slice (some ⟨g, 0, none⟩) 19 19), (4, .int .i64 (0 : Nat))]) (m' := [(g, strs wides, .c 9)])
    (cloop (ι := Nat) (fun i => [(0, .string s), (3, .slice (some ⟨g, 0, none⟩) 19 19), (4, .int .i64 (i : Nat))]) (fun _ => [(g, strs wides, .c 9)]) (fun k i => k = s.size - i ∧ i ≤ s.size ∧ Lex0.isSpT s.data.toList = Lex0.isSpT (s.data.toList.drop i)) s.size 0 ⟨rfl, by omega, rfl⟩ ?_) ⟨rfl, rfl, rfl, trivial⟩ rfl
  rintro k i ⟨rfl, hj, heq⟩ K hK
  by_cases hlt : i < s.size
  case neg =>
    obtain rfl : i = s.size := by omega
    rw [List.drop_eq_nil_of_le (by rw [size_list]; exact Nat.le_refl _)] at heq
    repeat' (first | refine cseq ?_ | refine rtext ?_ | refine cfalse rfl ?_ | refine cret ?_ | refine cexit ?_ | refine jnil ?_ | (first | refine jmv rfl rfl rfl ?_ | refine jas_ rfl rfl rfl ?_ | (show Jo _ (.binOp _ _ _ _ _); (refine jy (ylss rfl rfl (by (exact decide_eq_false (by omega)))) rfl rfl ?_)) | (show Jo _ (.call _); ((show Jo _ (.call ⟨.builtin .len, _, #[9]⟩); refine jy (ylens rfl und9) rfl rfl ?_)))))
    exact post _ _ true heq rfl
  obtain ⟨c, hd, hbt⟩ := drop_bt hlt
  rw [hd] at heq
  have heq' : Lex0.isSpT s.data.toList = (Lex0.isSp c.toNat && Lex0.isSpT (s.data.toList.drop (i + 1))) := heq
  cases hc : Lex0.isSp c.toNat
  · rw [hc, Bool.false_and] at heq'
    repeat' ((fail_if_success (show PJ _ (Code.wp _ (Code.loop _) _) _ _)); first | (show Jo _ (.call ⟨.value (.func 43), _, _⟩); refine jcallq (v := .bool false) boPw rfl rfl rfl (quietC fun w _ => by rw [hbt, ← hc]; exact pageWhite_calls c.toNat w) ?_) | first | refine cseq ?_ | refine rtext ?_ | refine ctrue rfl ?_ | refine cfalse rfl ?_ | refine cskip ?_ | refine cblk ?_ | refine jnil ?_ | (first | refine jmv rfl rfl rfl ?_ | refine jas_ rfl rfl rfl ?_ | (show Jo _ (.binOp _ _ _ _ _); (refine jy (ylss rfl rfl (by (exact decide_eq_true (by omega)))) rfl rfl ?_)) | (show Jo _ (.index _ _ _); refine jy (yidx (c := bt _ _) rfl rfl und9 (by omega) (by omega) rfl) rfl rfl ?_) | (show Jo _ (.call _); first | (show Jo _ (.call ⟨.builtin .len, _, #[9]⟩); refine jy (ylens rfl und9) rfl rfl ?_) | (show Jo _ (.call ⟨.builtin .len, _, _⟩); refine jy (ylenl rfl und24) rfl rfl ?_))))
    refine fin (f' := [(0, .string s), (3, .slice (some ⟨g, 0, none⟩) 19 19), (4, .int .i64 (i : Nat)), (5, .int .i64 (0 : Nat)), (19, .slice (some ⟨g, 0, none⟩) 19 19), (20, .int .i64 (19 : Nat)), (21, .int .i64 (0 : Nat))]) (m' := [(g, strs wides, .c 9)])
      (cloop (ι := Nat) (fun j => [(0, .string s), (3, .slice (some ⟨g, 0, none⟩) 19 19), (4, .int .i64 (i : Nat)), (5, .int .i64 (0 : Nat)), (19, .slice (some ⟨g, 0, none⟩) 19 19), (20, .int .i64 (19 : Nat)), (21, .int .i64 (j : Nat))]) (fun _ => [(g, strs wides, .c 9)]) (fun k j => k = 19 - j ∧ j ≤ 19) 19 0 ⟨rfl, by omega⟩ ?_) ⟨rfl, rfl, rfl, rfl, rfl, rfl, rfl, trivial⟩ rfl
    rintro k2 j ⟨rfl, hj2⟩ K2 hK2
    by_cases hl2 : j < 19
    case neg =>
      obtain rfl : j = 19 := by omega
      repeat' (first | refine cseq ?_ | refine rtext ?_ | refine ctrue rfl ?_ | refine cfalse rfl ?_ | refine cret ?_ | refine cexit ?_ | refine tret ?_ | refine bret ?_ | refine jnil ?_ | (first | refine jmv rfl rfl rfl ?_ | refine jas_ rfl rfl rfl ?_ | (show Jo _ (.binOp _ _ _ _ _); first | refine jy (ylss rfl rfl (by (exact decide_eq_false (by omega)))) rfl rfl ?_ | refine jy (yeql rfl rfl (by (exact decide_eq_true (by omega)))) rfl rfl ?_)))
      exact post _ _ false heq' rfl
    obtain ⟨x, hx⟩ : ∃ x, wides[j]? = some x := ⟨_, List.getElem?_eq_getElem (by exact hl2)⟩
    have hxv : nth (strs wides) j = some (.string x) := by rw [nth_eq, strs, List.getElem?_map, hx]; rfl
    repeat' (first | refine cseq ?_ | refine rtext ?_ | refine ctrue rfl ?_ | refine cfalse rfl ?_ | refine cskip ?_ | refine cblk ?_ | refine tnorm ?_ | refine jnil ?_ | (first | refine jmv rfl rfl rfl ?_ | (show Jo _ (.load _ _); (refine jy (yload (i := 0) (v := .string x) rfl rfl hxv one9) rfl rfl ?_)) | refine jas_ rfl rfl rfl ?_ | (show Jo _ (.binOp _ _ _ _ _); first | (show Jo (some 31) (.binOp .add _ _ _ _); refine jy (yadd (c := ((j + 1 : Nat) : Int)) rfl rfl (by rw [i64_in (by omega) (by omega)]; omega)) rfl rfl ?_) | refine jy (ylss rfl rfl (by (exact decide_eq_true (by omega)))) rfl rfl ?_) | (show Jo _ (.call _); ((show Jo _ (.call ⟨.value (.func 64), _, _⟩); refine jcallq boPh rfl rfl rfl (quietC fun w _ => pageHas_calls s x i w hs hlt (wide_ok (i := i) hx ha).1 (wide_ok hx ha).2) ?_))) | (show Jo _ (.indexAddr _ _ _); refine jy (yat (p' := ⟨g, j, none⟩) rfl rfl und24 sz9 (by omega) (by omega) (add_at g j)) rfl rfl ?_)))
    exact fin (hK2 (19 - (j + 1)) (j + 1) (by omega) ⟨rfl, by omega⟩) ⟨rfl, rfl, rfl, rfl, rfl, rfl, rfl, trivial⟩ rfl
  · rw [hc, Bool.true_and] at heq'
    repeat' (first | (show Jo _ (.call ⟨.value (.func 43), _, _⟩); refine jcallq (v := .bool true) boPw rfl rfl rfl (quietC fun w _ => by rw [hbt, ← hc]; exact pageWhite_calls c.toNat w) ?_) | first | refine cseq ?_ | refine rtext ?_ | refine ctrue rfl ?_ | refine cskip ?_ | refine cblk ?_ | refine cexit ?_ | refine tnorm ?_ | refine jnil ?_ | (first | refine jmv rfl rfl rfl ?_ | refine jas_ rfl rfl rfl ?_ | (show Jo _ (.binOp _ _ _ _ _); first | (show Jo _ (.binOp .add _ _ _ _); refine jy (yadd (c := ((i + 1 : Nat) : Int)) rfl rfl (by rw [i64_in (by omega) (by omega)]; omega)) rfl rfl ?_) | refine jy (ylss rfl rfl (by (exact decide_eq_true (by omega)))) rfl rfl ?_) | (show Jo _ (.index _ _ _); refine jy (yidx (c := bt _ _) rfl rfl und9 (by omega) (by omega) rfl) rfl rfl ?_) | (show Jo _ (.call _); ((show Jo _ (.call ⟨.builtin .len, _, #[9]⟩); refine jy (ylens rfl und9) rfl rfl ?_)))))
    exact fin (hK (s.size - (i + 1)) (i + 1) (by omega) ⟨rfl, by omega, heq'⟩) ⟨rfl, rfl, rfl, trivial⟩ rfl
end Go.Proofs.YtkehggbmpdacpaaGreatDoor.Lw
namespace Go.Proofs.YtkehggbmpdacpaaGreatDoor.Pg
open Go.Rx hiding bt
open Go.RowKit Go.Proofs.YtkehggbmpdacpaaGreatDoor.Dec0 Go.Proofs.YtkehggbmpdacpaaGreatDoor.Lex0
theorem bo35 : bodyB Tryz.prog 35 = true := by kernel_rfl
theorem fb42_2 : fieldB Tryz.prog 42 2 = some 2 := by kernel_rfl
theorem or_pw {a n : Nat} (j : Nat) (hn : 2 ^ j = n) (ha : a < n) (hj : j < 15) : bits .or .u16 (a : Nat) ((n : Nat) : Int) = ((a + n : Nat) : Int) := by
  subst hn
  exact or_pow ha hj
def fstC : Code → Code
  | .seq a _ => a
  | c => c
def bRest (ty : Nat) (nw : Bool) (k : Nat) : Nat := bsum ((answers ty nw).drop k) k
section
variable {w : World} {ty g : Nat} {pos : Int} {tx : ByteArray} {fl : Bool} {is : Int} (hs : tx.size ≤ 4611686018427387904) (ha : ∀ c ∈ tx.data.toList, c.toNat < 128)
include hs ha
theorem bt15 {b : Nat} (hb : b < 32768) (h : b + bRest ty (!isSpT tx.data.toList) 15 = bitsT ty (!isSpT tx.data.toList)) : PJ ⟨111, [], fun _ => False, w⟩ ((sndN 17 (Tryz.f35.body.getD .skip)).wp Tryz.prog (bodyPost Tryz.prog Tryz.f35 (fun e w' => e = .returned (.int .u16 (bitsT ty (!isSpT tx.data.toList) : Nat)) ∧ Below w.heap.size w w'))) [(1, .pointer (some ⟨g, 0, none⟩)), (3, .int .u16 (b : Nat))] [(g, [.int .i64 ty, .int .i64 pos, .string tx, .bool fl, .int .u16 is], .c 42)] := by
  conv => arg 2; arg 2; whnf
  repeat' (first | refine cseq ?_ | refine rtext ?_ | refine cret ?_ | refine jnil ?_ | (first | refine jmv rfl rfl rfl ?_ | refine jas_ rfl rfl rfl ?_))
  exact ret1 rfl rfl rfl (fun w' hw' => ⟨by rw [← h]; rfl, hw'.2.below (fun k _ h => h) (Nat.le_refl _)⟩)
theorem bt14 {b : Nat} (hb : b < 16384) (h : b + bRest ty (!isSpT tx.data.toList) 14 = bitsT ty (!isSpT tx.data.toList)) : PJ ⟨111, [], fun _ => False, w⟩ ((sndN 16 (Tryz.f35.body.getD .skip)).wp Tryz.prog (bodyPost Tryz.prog Tryz.f35 (fun e w' => e = .returned (.int .u16 (bitsT ty (!isSpT tx.data.toList) : Nat)) ∧ Below w.heap.size w w'))) [(1, .pointer (some ⟨g, 0, none⟩)), (3, .int .u16 (b : Nat))] [(g, [.int .i64 ty, .int .i64 pos, .string tx, .bool fl, .int .u16 is], .c 42)] := by
  have e : bRest ty (!isSpT tx.data.toList) 14 = (if (decide (ty = 0)) = true then 2 ^ 14 else 0) + bRest ty (!isSpT tx.data.toList) 15 := rfl
  rw [show sndN 16 (Tryz.f35.body.getD .skip) = Code.seq (fstC (sndN 16 (Tryz.f35.body.getD .skip))) (sndN 17 (Tryz.f35.body.getD .skip)) by kernel_rfl]
  conv => arg 2; arg 2; arg 1; whnf
  repeat' ((fail_if_success (show PJ _ (Code.wp _ (sndN _ _) _) _ _)); first | first | refine cseq ?_ | refine rtext ?_ | refine ctrue rfl ?_ | refine cfalse rfl ?_ | refine cskip ?_ | refine jnil ?_ | (first | refine jmv rfl rfl rfl ?_ | (show Jo _ (.fieldAddr _ _ _); refine jy (yfield rfl (by (exact fb42_0)) rfl) rfl rfl ?_) | (show Jo _ (.load _ _); (refine jy (yload (i := 0) rfl rfl rfl (by (exact one3))) rfl rfl ?_)) | refine jas_ rfl rfl rfl ?_ | (show Jo _ (.binOp _ _ _ _ _); first | (show Jo _ (.binOp .or _ _ _ _); refine jy (yor (j := ((16384 : Nat) : Int)) (c := ((b + 16384 : Nat) : Int)) rfl rfl (or_pw 14 rfl hb (by decide))) rfl rfl ?_) | refine jeql rfl rfl rfl rfl (fun hq => ?_) (fun hq => ?_))))
  all_goals first
    | exact fin (bt15 hs ha (b := b + 16384) (by omega) (by rw [e, if_pos (show (decide (ty = 0)) = true from decide_eq_true (by omega))] at h; omega)) ⟨rfl, rfl, trivial⟩ rfl
    | exact fin (bt15 hs ha (b := b) (by omega) (by rw [e, if_neg (show ¬ (decide (ty = 0)) = true by rw [show (decide (ty = 0)) = false from decide_eq_false (by omega)]; exact Bool.noConfusion)] at h; omega)) ⟨rfl, rfl, trivial⟩ rfl
theorem bt13 {b : Nat} (hb : b < 8192) (h : b + bRest ty (!isSpT tx.data.toList) 13 = bitsT ty (!isSpT tx.data.toList)) : PJ ⟨111, [], fun _ => False, w⟩ ((sndN 15 (Tryz.f35.body.getD .skip)).wp Tryz.prog (bodyPost Tryz.prog Tryz.f35 (fun e w' => e = .returned (.int .u16 (bitsT ty (!isSpT tx.data.toList) : Nat)) ∧ Below w.heap.size w w'))) [(1, .pointer (some ⟨g, 0, none⟩)), (3, .int .u16 (b : Nat))] [(g, [.int .i64 ty, .int .i64 pos, .string tx, .bool fl, .int .u16 is], .c 42)] := by
  have e : bRest ty (!isSpT tx.data.toList) 13 = (if (decide (ty = 1)) = true then 2 ^ 13 else 0) + bRest ty (!isSpT tx.data.toList) 14 := rfl
  rw [show sndN 15 (Tryz.f35.body.getD .skip) = Code.seq (fstC (sndN 15 (Tryz.f35.body.getD .skip))) (sndN 16 (Tryz.f35.body.getD .skip)) by kernel_rfl]
  conv => arg 2; arg 2; arg 1; whnf
  repeat' ((fail_if_success (show PJ _ (Code.wp _ (sndN _ _) _) _ _)); first | first | refine cseq ?_ | refine rtext ?_ | refine ctrue rfl ?_ | refine cfalse rfl ?_ | refine cskip ?_ | refine jnil ?_ | (first | refine jmv rfl rfl rfl ?_ | (show Jo _ (.fieldAddr _ _ _); refine jy (yfield rfl (by (exact fb42_0)) rfl) rfl rfl ?_) | (show Jo _ (.load _ _); (refine jy (yload (i := 0) rfl rfl rfl (by (exact one3))) rfl rfl ?_)) | refine jas_ rfl rfl rfl ?_ | (show Jo _ (.binOp _ _ _ _ _); first | (show Jo _ (.binOp .or _ _ _ _); refine jy (yor (j := ((8192 : Nat) : Int)) (c := ((b + 8192 : Nat) : Int)) rfl rfl (or_pw 13 rfl hb (by decide))) rfl rfl ?_) | refine jeql rfl rfl rfl rfl (fun hq => ?_) (fun hq => ?_))))
  all_goals first
    | exact fin (bt14 hs ha (b := b + 8192) (by omega) (by rw [e, if_pos (show (decide (ty = 1)) = true from decide_eq_true (by omega))] at h; omega)) ⟨rfl, rfl, trivial⟩ rfl
    | exact fin (bt14 hs ha (b := b) (by omega) (by rw [e, if_neg (show ¬ (decide (ty = 1)) = true by rw [show (decide (ty = 1)) = false from decide_eq_false (by omega)]; exact Bool.noConfusion)] at h; omega)) ⟨rfl, rfl, trivial⟩ rfl
theorem bt12 {b : Nat} (hb : b < 4096) (h : b + bRest ty (!isSpT tx.data.toList) 12 = bitsT ty (!isSpT tx.data.toList)) : PJ ⟨111, [], fun _ => False, w⟩ ((sndN 14 (Tryz.f35.body.getD .skip)).wp Tryz.prog (bodyPost Tryz.prog Tryz.f35 (fun e w' => e = .returned (.int .u16 (bitsT ty (!isSpT tx.data.toList) : Nat)) ∧ Below w.heap.size w w'))) [(1, .pointer (some ⟨g, 0, none⟩)), (3, .int .u16 (b : Nat))] [(g, [.int .i64 ty, .int .i64 pos, .string tx, .bool fl, .int .u16 is], .c 42)] := by
  have e : bRest ty (!isSpT tx.data.toList) 12 = (if (decide (ty = 0 ∨ ty = 1)) = true then 2 ^ 12 else 0) + bRest ty (!isSpT tx.data.toList) 13 := rfl
  rw [show sndN 14 (Tryz.f35.body.getD .skip) = Code.seq (fstC (sndN 14 (Tryz.f35.body.getD .skip))) (sndN 15 (Tryz.f35.body.getD .skip)) by kernel_rfl]
  conv => arg 2; arg 2; arg 1; whnf
  repeat' ((fail_if_success (show PJ _ (Code.wp _ (sndN _ _) _) _ _)); first | first | refine cseq ?_ | refine rtext ?_ | refine ctrue rfl ?_ | refine cfalse rfl ?_ | refine cskip ?_ | refine jnil ?_ | (first | refine js rfl rfl ?_ | refine jmv rfl rfl rfl ?_ | (show Jo _ (.fieldAddr _ _ _); refine jy (yfield rfl (by (exact fb42_0)) rfl) rfl rfl ?_) | (show Jo _ (.load _ _); (refine jy (yload (i := 0) rfl rfl rfl (by (exact one3))) rfl rfl ?_)) | refine jas_ rfl rfl rfl ?_ | (show Jo _ (.binOp _ _ _ _ _); first | (show Jo _ (.binOp .or _ _ _ _); refine jy (yor (j := ((4096 : Nat) : Int)) (c := ((b + 4096 : Nat) : Int)) rfl rfl (or_pw 12 rfl hb (by decide))) rfl rfl ?_) | refine jeql rfl rfl rfl rfl (fun hq => ?_) (fun hq => ?_)) | (show Jo _ (.pick _ _ _); first | refine jy (ypick1 rfl rfl) rfl rfl ?_ | refine jy (ypick0 rfl rfl) rfl rfl ?_)))
  all_goals first
    | exact fin (bt13 hs ha (b := b + 4096) (by omega) (by rw [e, if_pos (show (decide (ty = 0 ∨ ty = 1)) = true from decide_eq_true (by omega))] at h; omega)) ⟨rfl, rfl, trivial⟩ rfl
    | exact fin (bt13 hs ha (b := b) (by omega) (by rw [e, if_neg (show ¬ (decide (ty = 0 ∨ ty = 1)) = true by rw [show (decide (ty = 0 ∨ ty = 1)) = false from decide_eq_false (by omega)]; exact Bool.noConfusion)] at h; omega)) ⟨rfl, rfl, trivial⟩ rfl
theorem bt11 {b : Nat} (hb : b < 2048) (h : b + bRest ty (!isSpT tx.data.toList) 11 = bitsT ty (!isSpT tx.data.toList)) : PJ ⟨111, [], fun _ => False, w⟩ ((sndN 13 (Tryz.f35.body.getD .skip)).wp Tryz.prog (bodyPost Tryz.prog Tryz.f35 (fun e w' => e = .returned (.int .u16 (bitsT ty (!isSpT tx.data.toList) : Nat)) ∧ Below w.heap.size w w'))) [(1, .pointer (some ⟨g, 0, none⟩)), (3, .int .u16 (b : Nat))] [(g, [.int .i64 ty, .int .i64 pos, .string tx, .bool fl, .int .u16 is], .c 42)] := by
  have e : bRest ty (!isSpT tx.data.toList) 11 = (if (decide (3 ≤ ty ∧ ty ≤ 6)) = true then 2 ^ 11 else 0) + bRest ty (!isSpT tx.data.toList) 12 := rfl
  rw [show sndN 13 (Tryz.f35.body.getD .skip) = Code.seq (fstC (sndN 13 (Tryz.f35.body.getD .skip))) (sndN 14 (Tryz.f35.body.getD .skip)) by kernel_rfl]
  conv => arg 2; arg 2; arg 1; whnf
  repeat' ((fail_if_success (show PJ _ (Code.wp _ (sndN _ _) _) _ _)); first | first | refine cseq ?_ | refine rtext ?_ | refine ctrue rfl ?_ | refine cfalse rfl ?_ | refine cskip ?_ | refine jnil ?_ | (first | refine js rfl rfl ?_ | refine jmv rfl rfl rfl ?_ | (show Jo _ (.fieldAddr _ _ _); refine jy (yfield rfl (by (exact fb42_0)) rfl) rfl rfl ?_) | (show Jo _ (.load _ _); (refine jy (yload (i := 0) rfl rfl rfl (by (exact one3))) rfl rfl ?_)) | refine jas_ rfl rfl rfl ?_ | (show Jo _ (.binOp _ _ _ _ _); first | (show Jo _ (.binOp .or _ _ _ _); refine jy (yor (j := ((2048 : Nat) : Int)) (c := ((b + 2048 : Nat) : Int)) rfl rfl (or_pw 11 rfl hb (by decide))) rfl rfl ?_) | (show Jo _ (.binOp .leq _ _ _ _); (refine jleq rfl rfl rfl rfl (fun hq => ?_) (fun hq => ?_))) | refine jgeq rfl rfl rfl rfl (fun hq => ?_) (fun hq => ?_)) | (show Jo _ (.pick _ _ _); first | refine jy (ypick1 rfl rfl) rfl rfl ?_ | refine jy (ypick0 rfl rfl) rfl rfl ?_)))
  all_goals first
    | exact fin (bt12 hs ha (b := b + 2048) (by omega) (by rw [e, if_pos (show (decide (3 ≤ ty ∧ ty ≤ 6)) = true from decide_eq_true (by omega))] at h; omega)) ⟨rfl, rfl, trivial⟩ rfl
    | exact fin (bt12 hs ha (b := b) (by omega) (by rw [e, if_neg (show ¬ (decide (3 ≤ ty ∧ ty ≤ 6)) = true by rw [show (decide (3 ≤ ty ∧ ty ≤ 6)) = false from decide_eq_false (by omega)]; exact Bool.noConfusion)] at h; omega)) ⟨rfl, rfl, trivial⟩ rfl
theorem bt10 {b : Nat} (hb : b < 1024) (h : b + bRest ty (!isSpT tx.data.toList) 10 = bitsT ty (!isSpT tx.data.toList)) : PJ ⟨111, [], fun _ => False, w⟩ ((sndN 12 (Tryz.f35.body.getD .skip)).wp Tryz.prog (bodyPost Tryz.prog Tryz.f35 (fun e w' => e = .returned (.int .u16 (bitsT ty (!isSpT tx.data.toList) : Nat)) ∧ Below w.heap.size w w'))) [(1, .pointer (some ⟨g, 0, none⟩)), (3, .int .u16 (b : Nat))] [(g, [.int .i64 ty, .int .i64 pos, .string tx, .bool fl, .int .u16 is], .c 42)] := by
  have e : bRest ty (!isSpT tx.data.toList) 10 = (if (decide (ty = 10 ∨ ty = 11)) = true then 2 ^ 10 else 0) + bRest ty (!isSpT tx.data.toList) 11 := rfl
  rw [show sndN 12 (Tryz.f35.body.getD .skip) = Code.seq (fstC (sndN 12 (Tryz.f35.body.getD .skip))) (sndN 13 (Tryz.f35.body.getD .skip)) by kernel_rfl]
  conv => arg 2; arg 2; arg 1; whnf
  repeat' ((fail_if_success (show PJ _ (Code.wp _ (sndN _ _) _) _ _)); first | first | refine cseq ?_ | refine rtext ?_ | refine ctrue rfl ?_ | refine cfalse rfl ?_ | refine cskip ?_ | refine jnil ?_ | (first | refine js rfl rfl ?_ | refine jmv rfl rfl rfl ?_ | (show Jo _ (.fieldAddr _ _ _); refine jy (yfield rfl (by (exact fb42_0)) rfl) rfl rfl ?_) | (show Jo _ (.load _ _); (refine jy (yload (i := 0) rfl rfl rfl (by (exact one3))) rfl rfl ?_)) | refine jas_ rfl rfl rfl ?_ | (show Jo _ (.binOp _ _ _ _ _); first | (show Jo _ (.binOp .or _ _ _ _); refine jy (yor (j := ((1024 : Nat) : Int)) (c := ((b + 1024 : Nat) : Int)) rfl rfl (or_pw 10 rfl hb (by decide))) rfl rfl ?_) | refine jeql rfl rfl rfl rfl (fun hq => ?_) (fun hq => ?_)) | (show Jo _ (.pick _ _ _); first | refine jy (ypick1 rfl rfl) rfl rfl ?_ | refine jy (ypick0 rfl rfl) rfl rfl ?_)))
  all_goals first
    | exact fin (bt11 hs ha (b := b + 1024) (by omega) (by rw [e, if_pos (show (decide (ty = 10 ∨ ty = 11)) = true from decide_eq_true (by omega))] at h; omega)) ⟨rfl, rfl, trivial⟩ rfl
    | exact fin (bt11 hs ha (b := b) (by omega) (by rw [e, if_neg (show ¬ (decide (ty = 10 ∨ ty = 11)) = true by rw [show (decide (ty = 10 ∨ ty = 11)) = false from decide_eq_false (by omega)]; exact Bool.noConfusion)] at h; omega)) ⟨rfl, rfl, trivial⟩ rfl
theorem bt9 {b : Nat} (hb : b < 512) (h : b + bRest ty (!isSpT tx.data.toList) 9 = bitsT ty (!isSpT tx.data.toList)) : PJ ⟨111, [], fun _ => False, w⟩ ((sndN 11 (Tryz.f35.body.getD .skip)).wp Tryz.prog (bodyPost Tryz.prog Tryz.f35 (fun e w' => e = .returned (.int .u16 (bitsT ty (!isSpT tx.data.toList) : Nat)) ∧ Below w.heap.size w w'))) [(1, .pointer (some ⟨g, 0, none⟩)), (3, .int .u16 (b : Nat))] [(g, [.int .i64 ty, .int .i64 pos, .string tx, .bool fl, .int .u16 is], .c 42)] := by
  have e : bRest ty (!isSpT tx.data.toList) 9 = (if (decide (ty = 16)) = true then 2 ^ 9 else 0) + bRest ty (!isSpT tx.data.toList) 10 := rfl
  rw [show sndN 11 (Tryz.f35.body.getD .skip) = Code.seq (fstC (sndN 11 (Tryz.f35.body.getD .skip))) (sndN 12 (Tryz.f35.body.getD .skip)) by kernel_rfl]
  conv => arg 2; arg 2; arg 1; whnf
  repeat' ((fail_if_success (show PJ _ (Code.wp _ (sndN _ _) _) _ _)); first | first | refine cseq ?_ | refine rtext ?_ | refine ctrue rfl ?_ | refine cfalse rfl ?_ | refine cskip ?_ | refine jnil ?_ | (first | refine jmv rfl rfl rfl ?_ | (show Jo _ (.fieldAddr _ _ _); refine jy (yfield rfl (by (exact fb42_0)) rfl) rfl rfl ?_) | (show Jo _ (.load _ _); (refine jy (yload (i := 0) rfl rfl rfl (by (exact one3))) rfl rfl ?_)) | refine jas_ rfl rfl rfl ?_ | (show Jo _ (.binOp _ _ _ _ _); first | (show Jo _ (.binOp .or _ _ _ _); refine jy (yor (j := ((512 : Nat) : Int)) (c := ((b + 512 : Nat) : Int)) rfl rfl (or_pw 9 rfl hb (by decide))) rfl rfl ?_) | refine jeql rfl rfl rfl rfl (fun hq => ?_) (fun hq => ?_))))
  all_goals first
    | exact fin (bt10 hs ha (b := b + 512) (by omega) (by rw [e, if_pos (show (decide (ty = 16)) = true from decide_eq_true (by omega))] at h; omega)) ⟨rfl, rfl, trivial⟩ rfl
    | exact fin (bt10 hs ha (b := b) (by omega) (by rw [e, if_neg (show ¬ (decide (ty = 16)) = true by rw [show (decide (ty = 16)) = false from decide_eq_false (by omega)]; exact Bool.noConfusion)] at h; omega)) ⟨rfl, rfl, trivial⟩ rfl
theorem bt8 {b : Nat} (hb : b < 256) (h : b + bRest ty (!isSpT tx.data.toList) 8 = bitsT ty (!isSpT tx.data.toList)) : PJ ⟨111, [], fun _ => False, w⟩ ((sndN 10 (Tryz.f35.body.getD .skip)).wp Tryz.prog (bodyPost Tryz.prog Tryz.f35 (fun e w' => e = .returned (.int .u16 (bitsT ty (!isSpT tx.data.toList) : Nat)) ∧ Below w.heap.size w w'))) [(1, .pointer (some ⟨g, 0, none⟩)), (3, .int .u16 (b : Nat))] [(g, [.int .i64 ty, .int .i64 pos, .string tx, .bool fl, .int .u16 is], .c 42)] := by
  have e : bRest ty (!isSpT tx.data.toList) 8 = (if (decide (ty = 15)) = true then 2 ^ 8 else 0) + bRest ty (!isSpT tx.data.toList) 9 := rfl
  rw [show sndN 10 (Tryz.f35.body.getD .skip) = Code.seq (fstC (sndN 10 (Tryz.f35.body.getD .skip))) (sndN 11 (Tryz.f35.body.getD .skip)) by kernel_rfl]
  conv => arg 2; arg 2; arg 1; whnf
  repeat' ((fail_if_success (show PJ _ (Code.wp _ (sndN _ _) _) _ _)); first | first | refine cseq ?_ | refine rtext ?_ | refine ctrue rfl ?_ | refine cfalse rfl ?_ | refine cskip ?_ | refine jnil ?_ | (first | refine jmv rfl rfl rfl ?_ | (show Jo _ (.fieldAddr _ _ _); refine jy (yfield rfl (by (exact fb42_0)) rfl) rfl rfl ?_) | (show Jo _ (.load _ _); (refine jy (yload (i := 0) rfl rfl rfl (by (exact one3))) rfl rfl ?_)) | refine jas_ rfl rfl rfl ?_ | (show Jo _ (.binOp _ _ _ _ _); first | (show Jo _ (.binOp .or _ _ _ _); refine jy (yor (j := ((256 : Nat) : Int)) (c := ((b + 256 : Nat) : Int)) rfl rfl (or_pw 8 rfl hb (by decide))) rfl rfl ?_) | refine jeql rfl rfl rfl rfl (fun hq => ?_) (fun hq => ?_))))
  all_goals first
    | exact fin (bt9 hs ha (b := b + 256) (by omega) (by rw [e, if_pos (show (decide (ty = 15)) = true from decide_eq_true (by omega))] at h; omega)) ⟨rfl, rfl, trivial⟩ rfl
    | exact fin (bt9 hs ha (b := b) (by omega) (by rw [e, if_neg (show ¬ (decide (ty = 15)) = true by rw [show (decide (ty = 15)) = false from decide_eq_false (by omega)]; exact Bool.noConfusion)] at h; omega)) ⟨rfl, rfl, trivial⟩ rfl
theorem bt7 {b : Nat} (hb : b < 128) (h : b + bRest ty (!isSpT tx.data.toList) 7 = bitsT ty (!isSpT tx.data.toList)) : PJ ⟨111, [], fun _ => False, w⟩ ((sndN 9 (Tryz.f35.body.getD .skip)).wp Tryz.prog (bodyPost Tryz.prog Tryz.f35 (fun e w' => e = .returned (.int .u16 (bitsT ty (!isSpT tx.data.toList) : Nat)) ∧ Below w.heap.size w w'))) [(1, .pointer (some ⟨g, 0, none⟩)), (3, .int .u16 (b : Nat))] [(g, [.int .i64 ty, .int .i64 pos, .string tx, .bool fl, .int .u16 is], .c 42)] := by
  have e : bRest ty (!isSpT tx.data.toList) 7 = (if (decide (ty = 12)) = true then 2 ^ 7 else 0) + bRest ty (!isSpT tx.data.toList) 8 := rfl
  rw [show sndN 9 (Tryz.f35.body.getD .skip) = Code.seq (fstC (sndN 9 (Tryz.f35.body.getD .skip))) (sndN 10 (Tryz.f35.body.getD .skip)) by kernel_rfl]
  conv => arg 2; arg 2; arg 1; whnf
  repeat' ((fail_if_success (show PJ _ (Code.wp _ (sndN _ _) _) _ _)); first | first | refine cseq ?_ | refine rtext ?_ | refine ctrue rfl ?_ | refine cfalse rfl ?_ | refine cskip ?_ | refine jnil ?_ | (first | refine jmv rfl rfl rfl ?_ | (show Jo _ (.fieldAddr _ _ _); refine jy (yfield rfl (by (exact fb42_0)) rfl) rfl rfl ?_) | (show Jo _ (.load _ _); (refine jy (yload (i := 0) rfl rfl rfl (by (exact one3))) rfl rfl ?_)) | refine jas_ rfl rfl rfl ?_ | (show Jo _ (.binOp _ _ _ _ _); first | (show Jo _ (.binOp .or _ _ _ _); refine jy (yor (j := ((128 : Nat) : Int)) (c := ((b + 128 : Nat) : Int)) rfl rfl (or_pw 7 rfl hb (by decide))) rfl rfl ?_) | refine jeql rfl rfl rfl rfl (fun hq => ?_) (fun hq => ?_))))
  all_goals first
    | exact fin (bt8 hs ha (b := b + 128) (by omega) (by rw [e, if_pos (show (decide (ty = 12)) = true from decide_eq_true (by omega))] at h; omega)) ⟨rfl, rfl, trivial⟩ rfl
    | exact fin (bt8 hs ha (b := b) (by omega) (by rw [e, if_neg (show ¬ (decide (ty = 12)) = true by rw [show (decide (ty = 12)) = false from decide_eq_false (by omega)]; exact Bool.noConfusion)] at h; omega)) ⟨rfl, rfl, trivial⟩ rfl
theorem bt6 {b : Nat} (hb : b < 64) (h : b + bRest ty (!isSpT tx.data.toList) 6 = bitsT ty (!isSpT tx.data.toList)) : PJ ⟨111, [], fun _ => False, w⟩ ((sndN 8 (Tryz.f35.body.getD .skip)).wp Tryz.prog (bodyPost Tryz.prog Tryz.f35 (fun e w' => e = .returned (.int .u16 (bitsT ty (!isSpT tx.data.toList) : Nat)) ∧ Below w.heap.size w w'))) [(1, .pointer (some ⟨g, 0, none⟩)), (3, .int .u16 (b : Nat))] [(g, [.int .i64 ty, .int .i64 pos, .string tx, .bool fl, .int .u16 is], .c 42)] := by
  have e : bRest ty (!isSpT tx.data.toList) 6 = (if (decide (ty = 11 ∨ ty = 9)) = true then 2 ^ 6 else 0) + bRest ty (!isSpT tx.data.toList) 7 := rfl
  rw [show sndN 8 (Tryz.f35.body.getD .skip) = Code.seq (fstC (sndN 8 (Tryz.f35.body.getD .skip))) (sndN 9 (Tryz.f35.body.getD .skip)) by kernel_rfl]
  conv => arg 2; arg 2; arg 1; whnf
  repeat' ((fail_if_success (show PJ _ (Code.wp _ (sndN _ _) _) _ _)); first | first | refine cseq ?_ | refine rtext ?_ | refine ctrue rfl ?_ | refine cfalse rfl ?_ | refine cskip ?_ | refine jnil ?_ | (first | refine js rfl rfl ?_ | refine jmv rfl rfl rfl ?_ | (show Jo _ (.fieldAddr _ _ _); refine jy (yfield rfl (by (exact fb42_0)) rfl) rfl rfl ?_) | (show Jo _ (.load _ _); (refine jy (yload (i := 0) rfl rfl rfl (by (exact one3))) rfl rfl ?_)) | refine jas_ rfl rfl rfl ?_ | (show Jo _ (.binOp _ _ _ _ _); first | (show Jo _ (.binOp .or _ _ _ _); refine jy (yor (j := ((64 : Nat) : Int)) (c := ((b + 64 : Nat) : Int)) rfl rfl (or_pw 6 rfl hb (by decide))) rfl rfl ?_) | refine jeql rfl rfl rfl rfl (fun hq => ?_) (fun hq => ?_)) | (show Jo _ (.pick _ _ _); first | refine jy (ypick1 rfl rfl) rfl rfl ?_ | refine jy (ypick0 rfl rfl) rfl rfl ?_)))
  all_goals first
    | exact fin (bt7 hs ha (b := b + 64) (by omega) (by rw [e, if_pos (show (decide (ty = 11 ∨ ty = 9)) = true from decide_eq_true (by omega))] at h; omega)) ⟨rfl, rfl, trivial⟩ rfl
    | exact fin (bt7 hs ha (b := b) (by omega) (by rw [e, if_neg (show ¬ (decide (ty = 11 ∨ ty = 9)) = true by rw [show (decide (ty = 11 ∨ ty = 9)) = false from decide_eq_false (by omega)]; exact Bool.noConfusion)] at h; omega)) ⟨rfl, rfl, trivial⟩ rfl
theorem bt5 {b : Nat} (hb : b < 32) (h : b + bRest ty (!isSpT tx.data.toList) 5 = bitsT ty (!isSpT tx.data.toList)) : PJ ⟨111, [], fun _ => False, w⟩ ((sndN 7 (Tryz.f35.body.getD .skip)).wp Tryz.prog (bodyPost Tryz.prog Tryz.f35 (fun e w' => e = .returned (.int .u16 (bitsT ty (!isSpT tx.data.toList) : Nat)) ∧ Below w.heap.size w w'))) [(1, .pointer (some ⟨g, 0, none⟩)), (3, .int .u16 (b : Nat))] [(g, [.int .i64 ty, .int .i64 pos, .string tx, .bool fl, .int .u16 is], .c 42)] := by
  have e : bRest ty (!isSpT tx.data.toList) 5 = (if (decide (ty = 10 ∨ ty = 8)) = true then 2 ^ 5 else 0) + bRest ty (!isSpT tx.data.toList) 6 := rfl
  rw [show sndN 7 (Tryz.f35.body.getD .skip) = Code.seq (fstC (sndN 7 (Tryz.f35.body.getD .skip))) (sndN 8 (Tryz.f35.body.getD .skip)) by kernel_rfl]
  conv => arg 2; arg 2; arg 1; whnf
  repeat' ((fail_if_success (show PJ _ (Code.wp _ (sndN _ _) _) _ _)); first | first | refine cseq ?_ | refine rtext ?_ | refine ctrue rfl ?_ | refine cfalse rfl ?_ | refine cskip ?_ | refine jnil ?_ | (first | refine js rfl rfl ?_ | refine jmv rfl rfl rfl ?_ | (show Jo _ (.fieldAddr _ _ _); refine jy (yfield rfl (by (exact fb42_0)) rfl) rfl rfl ?_) | (show Jo _ (.load _ _); (refine jy (yload (i := 0) rfl rfl rfl (by (exact one3))) rfl rfl ?_)) | refine jas_ rfl rfl rfl ?_ | (show Jo _ (.binOp _ _ _ _ _); first | (show Jo _ (.binOp .or _ _ _ _); refine jy (yor (j := ((32 : Nat) : Int)) (c := ((b + 32 : Nat) : Int)) rfl rfl (or_pw 5 rfl hb (by decide))) rfl rfl ?_) | refine jeql rfl rfl rfl rfl (fun hq => ?_) (fun hq => ?_)) | (show Jo _ (.pick _ _ _); first | refine jy (ypick1 rfl rfl) rfl rfl ?_ | refine jy (ypick0 rfl rfl) rfl rfl ?_)))
  all_goals first
    | exact fin (bt6 hs ha (b := b + 32) (by omega) (by rw [e, if_pos (show (decide (ty = 10 ∨ ty = 8)) = true from decide_eq_true (by omega))] at h; omega)) ⟨rfl, rfl, trivial⟩ rfl
    | exact fin (bt6 hs ha (b := b) (by omega) (by rw [e, if_neg (show ¬ (decide (ty = 10 ∨ ty = 8)) = true by rw [show (decide (ty = 10 ∨ ty = 8)) = false from decide_eq_false (by omega)]; exact Bool.noConfusion)] at h; omega)) ⟨rfl, rfl, trivial⟩ rfl
theorem bt4 {b : Nat} (hb : b < 16) (h : b + bRest ty (!isSpT tx.data.toList) 4 = bitsT ty (!isSpT tx.data.toList)) : PJ ⟨111, [], fun _ => False, w⟩ ((sndN 6 (Tryz.f35.body.getD .skip)).wp Tryz.prog (bodyPost Tryz.prog Tryz.f35 (fun e w' => e = .returned (.int .u16 (bitsT ty (!isSpT tx.data.toList) : Nat)) ∧ Below w.heap.size w w'))) [(1, .pointer (some ⟨g, 0, none⟩)), (3, .int .u16 (b : Nat))] [(g, [.int .i64 ty, .int .i64 pos, .string tx, .bool fl, .int .u16 is], .c 42)] := by
  have e : bRest ty (!isSpT tx.data.toList) 4 = (if (decide (ty = 14)) = true then 2 ^ 4 else 0) + bRest ty (!isSpT tx.data.toList) 5 := rfl
  rw [show sndN 6 (Tryz.f35.body.getD .skip) = Code.seq (fstC (sndN 6 (Tryz.f35.body.getD .skip))) (sndN 7 (Tryz.f35.body.getD .skip)) by kernel_rfl]
  conv => arg 2; arg 2; arg 1; whnf
  repeat' ((fail_if_success (show PJ _ (Code.wp _ (sndN _ _) _) _ _)); first | first | refine cseq ?_ | refine rtext ?_ | refine ctrue rfl ?_ | refine cfalse rfl ?_ | refine cskip ?_ | refine jnil ?_ | (first | refine jmv rfl rfl rfl ?_ | (show Jo _ (.fieldAddr _ _ _); refine jy (yfield rfl (by (exact fb42_0)) rfl) rfl rfl ?_) | (show Jo _ (.load _ _); (refine jy (yload (i := 0) rfl rfl rfl (by (exact one3))) rfl rfl ?_)) | refine jas_ rfl rfl rfl ?_ | (show Jo _ (.binOp _ _ _ _ _); first | (show Jo _ (.binOp .or _ _ _ _); refine jy (yor (j := ((16 : Nat) : Int)) (c := ((b + 16 : Nat) : Int)) rfl rfl (or_pw 4 rfl hb (by decide))) rfl rfl ?_) | refine jeql rfl rfl rfl rfl (fun hq => ?_) (fun hq => ?_))))
  all_goals first
    | exact fin (bt5 hs ha (b := b + 16) (by omega) (by rw [e, if_pos (show (decide (ty = 14)) = true from decide_eq_true (by omega))] at h; omega)) ⟨rfl, rfl, trivial⟩ rfl
    | exact fin (bt5 hs ha (b := b) (by omega) (by rw [e, if_neg (show ¬ (decide (ty = 14)) = true by rw [show (decide (ty = 14)) = false from decide_eq_false (by omega)]; exact Bool.noConfusion)] at h; omega)) ⟨rfl, rfl, trivial⟩ rfl
theorem bt3 {b : Nat} (hb : b < 8) (h : b + bRest ty (!isSpT tx.data.toList) 3 = bitsT ty (!isSpT tx.data.toList)) : PJ ⟨111, [], fun _ => False, w⟩ ((sndN 5 (Tryz.f35.body.getD .skip)).wp Tryz.prog (bodyPost Tryz.prog Tryz.f35 (fun e w' => e = .returned (.int .u16 (bitsT ty (!isSpT tx.data.toList) : Nat)) ∧ Below w.heap.size w w'))) [(1, .pointer (some ⟨g, 0, none⟩)), (3, .int .u16 (b : Nat))] [(g, [.int .i64 ty, .int .i64 pos, .string tx, .bool fl, .int .u16 is], .c 42)] := by
  have e : bRest ty (!isSpT tx.data.toList) 3 = (if (decide (ty = 13)) = true then 2 ^ 3 else 0) + bRest ty (!isSpT tx.data.toList) 4 := rfl
  rw [show sndN 5 (Tryz.f35.body.getD .skip) = Code.seq (fstC (sndN 5 (Tryz.f35.body.getD .skip))) (sndN 6 (Tryz.f35.body.getD .skip)) by kernel_rfl]
  conv => arg 2; arg 2; arg 1; whnf
  repeat' ((fail_if_success (show PJ _ (Code.wp _ (sndN _ _) _) _ _)); first | first | refine cseq ?_ | refine rtext ?_ | refine ctrue rfl ?_ | refine cfalse rfl ?_ | refine cskip ?_ | refine jnil ?_ | (first | refine jmv rfl rfl rfl ?_ | (show Jo _ (.fieldAddr _ _ _); refine jy (yfield rfl (by (exact fb42_0)) rfl) rfl rfl ?_) | (show Jo _ (.load _ _); (refine jy (yload (i := 0) rfl rfl rfl (by (exact one3))) rfl rfl ?_)) | refine jas_ rfl rfl rfl ?_ | (show Jo _ (.binOp _ _ _ _ _); first | (show Jo _ (.binOp .or _ _ _ _); refine jy (yor (j := ((8 : Nat) : Int)) (c := ((b + 8 : Nat) : Int)) rfl rfl (or_pw 3 rfl hb (by decide))) rfl rfl ?_) | refine jeql rfl rfl rfl rfl (fun hq => ?_) (fun hq => ?_))))
  all_goals first
    | exact fin (bt4 hs ha (b := b + 8) (by omega) (by rw [e, if_pos (show (decide (ty = 13)) = true from decide_eq_true (by omega))] at h; omega)) ⟨rfl, rfl, trivial⟩ rfl
    | exact fin (bt4 hs ha (b := b) (by omega) (by rw [e, if_neg (show ¬ (decide (ty = 13)) = true by rw [show (decide (ty = 13)) = false from decide_eq_false (by omega)]; exact Bool.noConfusion)] at h; omega)) ⟨rfl, rfl, trivial⟩ rfl
theorem bt2 {b : Nat} (hb : b < 4) (h : b + bRest ty (!isSpT tx.data.toList) 2 = bitsT ty (!isSpT tx.data.toList)) : PJ ⟨111, [], fun _ => False, w⟩ ((sndN 4 (Tryz.f35.body.getD .skip)).wp Tryz.prog (bodyPost Tryz.prog Tryz.f35 (fun e w' => e = .returned (.int .u16 (bitsT ty (!isSpT tx.data.toList) : Nat)) ∧ Below w.heap.size w w'))) [(1, .pointer (some ⟨g, 0, none⟩)), (3, .int .u16 (b : Nat))] [(g, [.int .i64 ty, .int .i64 pos, .string tx, .bool fl, .int .u16 is], .c 42)] := by
  have e : bRest ty (!isSpT tx.data.toList) 2 = (if (!isSpT tx.data.toList) = true then 2 ^ 2 else 0) + bRest ty (!isSpT tx.data.toList) 3 := rfl
  rw [show sndN 4 (Tryz.f35.body.getD .skip) = Code.seq (fstC (sndN 4 (Tryz.f35.body.getD .skip))) (sndN 5 (Tryz.f35.body.getD .skip)) by kernel_rfl]
  conv => arg 2; arg 2; arg 1; whnf
  repeat' ((fail_if_success (show PJ _ (Code.wp _ (sndN _ _) _) _ _)); first | first | refine cseq ?_ | refine rtext ?_ | refine ctrue rfl ?_ | refine cfalse rfl ?_ | refine cskip ?_ | refine jnil ?_ | (first | refine jmv rfl rfl rfl ?_ | (show Jo _ (.fieldAddr _ _ _); refine jy (yfield rfl (by (exact fb42_2)) rfl) rfl rfl ?_) | (show Jo _ (.load _ _); (refine jy (yload (i := 0) rfl rfl rfl (by (exact one3))) rfl rfl ?_)) | refine jas_ rfl rfl rfl ?_ | (show Jo _ (.binOp _ _ _ _ _); ((show Jo _ (.binOp .or _ _ _ _); refine jy (yor (j := ((4 : Nat) : Int)) (c := ((b + 4 : Nat) : Int)) rfl rfl (or_pw 2 rfl hb (by decide))) rfl rfl ?_))) | (show Jo _ (.unOp _ _ _); refine jy (ynot rfl rfl) rfl rfl ?_) | (show Jo _ (.call _); ((show Jo _ (.call ⟨.value (.func 54), _, _⟩); refine jcallq Lw.boSp rfl rfl rfl (quietC fun w _ => Lw.pageSpace_calls tx w hs ha) ?_; refine jcases (fun hw => ?_) (fun hw => ?_))))))
  all_goals first
    | exact fin (bt3 hs ha (b := b + 4) (by omega) (by rw [e, if_pos (show (!isSpT tx.data.toList) = true from by rw [hw]; rfl)] at h; omega)) ⟨rfl, rfl, trivial⟩ rfl
    | exact fin (bt3 hs ha (b := b) (by omega) (by rw [e, if_neg (show ¬ (!isSpT tx.data.toList) = true by rw [show (!isSpT tx.data.toList) = false from by rw [hw]; rfl]; exact Bool.noConfusion)] at h; omega)) ⟨rfl, rfl, trivial⟩ rfl
theorem bt1 {b : Nat} (hb : b < 2) (h : b + bRest ty (!isSpT tx.data.toList) 1 = bitsT ty (!isSpT tx.data.toList)) : PJ ⟨111, [], fun _ => False, w⟩ ((sndN 3 (Tryz.f35.body.getD .skip)).wp Tryz.prog (bodyPost Tryz.prog Tryz.f35 (fun e w' => e = .returned (.int .u16 (bitsT ty (!isSpT tx.data.toList) : Nat)) ∧ Below w.heap.size w w'))) [(1, .pointer (some ⟨g, 0, none⟩)), (3, .int .u16 (b : Nat))] [(g, [.int .i64 ty, .int .i64 pos, .string tx, .bool fl, .int .u16 is], .c 42)] := by
  have e : bRest ty (!isSpT tx.data.toList) 1 = (if (decide (ty = 17)) = true then 2 ^ 1 else 0) + bRest ty (!isSpT tx.data.toList) 2 := rfl
  rw [show sndN 3 (Tryz.f35.body.getD .skip) = Code.seq (fstC (sndN 3 (Tryz.f35.body.getD .skip))) (sndN 4 (Tryz.f35.body.getD .skip)) by kernel_rfl]
  conv => arg 2; arg 2; arg 1; whnf
  repeat' ((fail_if_success (show PJ _ (Code.wp _ (sndN _ _) _) _ _)); first | first | refine cseq ?_ | refine rtext ?_ | refine ctrue rfl ?_ | refine cfalse rfl ?_ | refine cskip ?_ | refine jnil ?_ | (first | refine jmv rfl rfl rfl ?_ | (show Jo _ (.fieldAddr _ _ _); refine jy (yfield rfl (by (exact fb42_0)) rfl) rfl rfl ?_) | (show Jo _ (.load _ _); (refine jy (yload (i := 0) rfl rfl rfl (by (exact one3))) rfl rfl ?_)) | refine jas_ rfl rfl rfl ?_ | (show Jo _ (.binOp _ _ _ _ _); first | (show Jo _ (.binOp .or _ _ _ _); refine jy (yor (j := ((2 : Nat) : Int)) (c := ((b + 2 : Nat) : Int)) rfl rfl (or_pw 1 rfl hb (by decide))) rfl rfl ?_) | refine jeql rfl rfl rfl rfl (fun hq => ?_) (fun hq => ?_))))
  all_goals first
    | exact fin (bt2 hs ha (b := b + 2) (by omega) (by rw [e, if_pos (show (decide (ty = 17)) = true from decide_eq_true (by omega))] at h; omega)) ⟨rfl, rfl, trivial⟩ rfl
    | exact fin (bt2 hs ha (b := b) (by omega) (by rw [e, if_neg (show ¬ (decide (ty = 17)) = true by rw [show (decide (ty = 17)) = false from decide_eq_false (by omega)]; exact Bool.noConfusion)] at h; omega)) ⟨rfl, rfl, trivial⟩ rfl
theorem bt0 {b : Nat} (hb : b < 1) (h : b + bRest ty (!isSpT tx.data.toList) 0 = bitsT ty (!isSpT tx.data.toList)) : PJ ⟨111, [], fun _ => False, w⟩ ((sndN 2 (Tryz.f35.body.getD .skip)).wp Tryz.prog (bodyPost Tryz.prog Tryz.f35 (fun e w' => e = .returned (.int .u16 (bitsT ty (!isSpT tx.data.toList) : Nat)) ∧ Below w.heap.size w w'))) [(1, .pointer (some ⟨g, 0, none⟩)), (3, .int .u16 (b : Nat))] [(g, [.int .i64 ty, .int .i64 pos, .string tx, .bool fl, .int .u16 is], .c 42)] := by
  have e : bRest ty (!isSpT tx.data.toList) 0 = (if (decide (ty = 18 ∨ ty = 17)) = true then 2 ^ 0 else 0) + bRest ty (!isSpT tx.data.toList) 1 := rfl
  rw [show sndN 2 (Tryz.f35.body.getD .skip) = Code.seq (fstC (sndN 2 (Tryz.f35.body.getD .skip))) (sndN 3 (Tryz.f35.body.getD .skip)) by kernel_rfl]
  conv => arg 2; arg 2; arg 1; whnf
  repeat' ((fail_if_success (show PJ _ (Code.wp _ (sndN _ _) _) _ _)); first | first | refine cseq ?_ | refine rtext ?_ | refine ctrue rfl ?_ | refine cfalse rfl ?_ | refine cskip ?_ | refine jnil ?_ | (first | refine js rfl rfl ?_ | refine jmv rfl rfl rfl ?_ | (show Jo _ (.fieldAddr _ _ _); refine jy (yfield rfl (by (exact fb42_0)) rfl) rfl rfl ?_) | (show Jo _ (.load _ _); (refine jy (yload (i := 0) rfl rfl rfl (by (exact one3))) rfl rfl ?_)) | refine jas_ rfl rfl rfl ?_ | (show Jo _ (.binOp _ _ _ _ _); first | (show Jo _ (.binOp .or _ _ _ _); refine jy (yor (j := ((1 : Nat) : Int)) (c := ((b + 1 : Nat) : Int)) rfl rfl (or_pw 0 rfl hb (by decide))) rfl rfl ?_) | refine jeql rfl rfl rfl rfl (fun hq => ?_) (fun hq => ?_)) | (show Jo _ (.pick _ _ _); first | refine jy (ypick1 rfl rfl) rfl rfl ?_ | refine jy (ypick0 rfl rfl) rfl rfl ?_)))
  all_goals first
    | exact fin (bt1 hs ha (b := b + 1) (by omega) (by rw [e, if_pos (show (decide (ty = 18 ∨ ty = 17)) = true from decide_eq_true (by omega))] at h; omega)) ⟨rfl, rfl, trivial⟩ rfl
    | exact fin (bt1 hs ha (b := b) (by omega) (by rw [e, if_neg (show ¬ (decide (ty = 18 ∨ ty = 17)) = true by rw [show (decide (ty = 18 ∨ ty = 17)) = false from decide_eq_false (by omega)]; exact Bool.noConfusion)] at h; omega)) ⟨rfl, rfl, trivial⟩ rfl
theorem bits_calls (w : World) : Calls Tryz.prog 35 #[.agg [.int .i64 ty, .int .i64 pos, .string tx, .bool fl, .int .u16 is].toArray] w fun e w' => e = .returned (.int .u16 (bitsT ty (!isSpT tx.data.toList) : Nat)) ∧ Below w.heap.size w w' := by
  have hb : Tryz.f35.body = some (Code.seq (fstC (Tryz.f35.body.getD .skip)) (Code.seq (fstC (sndN 1 (Tryz.f35.body.getD .skip))) (sndN 2 (Tryz.f35.body.getD .skip)))) := by kernel_rfl
  generalize hv : [Value.int .i64 ty, .int .i64 pos, .string tx, .bool fl, .int .u16 is] = cc
  refine enter (fun _ => False) 111 [] Tryz.func35 hb rfl rfl (vs := [.agg cc.toArray]) (Has.nil _) ?_
  subst hv
  conv => arg 2; arg 2; arg 1; whnf
  conv => arg 2; arg 2; arg 2; arg 1; whnf
  repeat' ((fail_if_success (show PJ _ (Code.wp _ (sndN _ _) _) _ _)); first | first | refine cseq ?_ | refine rtext ?_ | refine jnil ?_ | (first | refine jas_ rfl rfl rfl ?_ | (show Jo _ (.box 42 _); refine jbox (c := [.int .i64 ty, .int .i64 pos, .string tx, .bool fl, .int .u16 is]) rfl rfl rfl (fun g h1 => ?_))))
  exact fin (bt0 hs ha (b := 0) (by decide) (by rw [Nat.zero_add]; exact bsum_bits _ _)) ⟨rfl, rfl, trivial⟩ rfl
end
theorem bo39 : bodyB Tryz.prog 39 = true := by kernel_rfl
theorem bo24 : bodyB Tryz.prog 24 = true := by kernel_rfl
theorem si24 : (Tryz.prog.info? 24).map (·.size) = some 1 := by kernel_rfl
theorem bu42' (a b : Int) (s : ByteArray) : Tryz.prog.built 42 [(0, .int .i64 a), (1, .int .i64 b), (2, .string s)] = some [.int .i64 a, .int .i64 b, .string s, .bool false, .int .u16 0].toArray := by kernel_rfl
def bkM (g : Nat) (s : ByteArray) (r : Row) (l : List Ti) (E : Mem) : Mem := bkB g s (r.val l.length) :: (r.mem (l.flatMap tiC) 42 ++ E)
structure BkOk (X : Cx) (r : Row) (l : List Ti) : Prop where
  ok : r.ok 0 5 l.length (l.flatMap tiC)
  may : r.may X
theorem BkOk.sub {X : Cx} {r : Row} {l : List Ti} (h : BkOk X r l) (n : Nat) {m : Mem} {w : World} (hw : Cl X m w) : BkOk (X.sub n w) r l := ⟨h.ok, Row.may_sub h.may⟩
theorem BkOk.up {X : Cx} {r : Row} {l : List Ti} {n : Nat} {m : Mem} {w : World} (hw : Cl X m w) (h : BkOk (X.sub n w) r l) : BkOk X r l := ⟨h.ok, Row.may_up hw h.may⟩
def asC (ty p : Nat) (t : ByteArray) : List Value := [.int .i64 ty, .int .i64 (p : Nat), .string t, .bool false, .int .u16 (bitsT ty (!isSpT t.data.toList) : Nat)]
theorem asC_eq (ty p : Nat) (t : ByteArray) : tiC (tiOf ty p t.data.toList) = asC ty p t := rfl
theorem asC_one (ty p : Nat) (t : ByteArray) : ∀ u ∈ asC ty p t, u.oneCell' = true := by
  intro u hu
  simp only [asC, List.mem_cons, List.not_mem_nil, or_false] at hu
  rcases hu with rfl | rfl | rfl | rfl | rfl <;> rfl
set_option maxHeartbeats 1000000 in
theorem as_calls {X : Cx} {g : Nat} (hg : X.may g) {s : ByteArray} {r : Row} {l : List Ti} {E : Mem} (hr : BkOk X r l) (hn : l.length < 1000000000) {ty : Nat} (hty : ty ≤ 18) {u t : ByteArray} (hts : t.size ≤ 4611686018427387904) (ha : ∀ c ∈ t.data.toList, c.toNat < 128) (hsz : s.size + u.size ≤ 9223372036854775807) :
    ∀ w, Cl X (bkM g s r l E) w → Calls Tryz.prog 39 #[.pointer (some ⟨g, 0, none⟩), .int .i64 (ty : Nat), .string u, .string t] w fun e w' => ∃ r' : Row, e = .returned (.tuple #[]) ∧ Cl X (bkM g (s ++ u) r' (l ++ [tiOf ty s.size t.data.toList]) E) w' ∧ BkOk X r' (l ++ [tiOf ty s.size t.data.toList]) := by
  intro w hw
  unfold bkM at hw
  refine enterC 38 hw Tryz.func39 rfl rfl (vs := [.pointer (some ⟨g, 0, none⟩), .int .i64 (ty : Nat), .string u, .string t]) rfl ?_
  replace hg := Cx.may_sub (n := 38) (w := w) hg
  replace hr := hr.sub 38 hw
  have e1 : (l ++ [tiOf ty s.size t.data.toList]).length = l.length + 1 := by simp
  have e2 : (l ++ [tiOf ty s.size t.data.toList]).flatMap tiC = l.flatMap tiC ++ asC ty s.size t := by rw [List.flatMap_append, ← asC_eq]; simp
  conv => arg 2; arg 2; whnf
  repeat' (first | first | (show PJ _ (Code.wp _ _ _) _ _; first | refine cseq ?_ | refine rtext ?_ | (show PJ _ (Code.wp _ (Code.region 2 _ true) _) _ _; refine ranyT 8 [(g8, asC ty s.size t, .c 42), bkB g s (r.val l.length)] mixed ?_)) | refine jnil ?_ | (first | (show Jo (some 13) (.load _ _); refine jy (yload (i := 0) rfl rfl rfl one9') rfl rfl ?_) | (show Jo (some 33) (.load _ _); refine jy (yload (i := 2) rfl rfl rfl one9') rfl rfl ?_) | refine jmv rfl rfl rfl ?_ | (show Jo _ (.nilCheck _); refine jy (ynil rfl) rfl rfl ?_) | (show Jo _ (.fieldAddr _ _ _); refine jy (yfield rfl (by first | exact fb29_0 | exact fb42_4) rfl) rfl rfl ?_) | (show Jo _ (.load _ _); (refine jy (yloads (i := 0) rfl rfl (by (exact ag42))) rfl rfl ?_)) | (show Jo _ (.binOp _ _ _ _ _); ((show Jo _ (.binOp .add _ _ _ _); refine jy (ysadd rfl rfl hsz rfl) rfl rfl ?_))) | (show Jo _ (.store _ _ _); first | refine jstores (i := 0) rfl rfl rfl rfl rfl si42 (.inr hT8) ?_ | refine jstore (i := 0) rfl rfl rfl rfl rfl si40 (.inr hT8) ?_ | refine jstore (i := 2) rfl rfl rfl rfl (rowv_one _ _) si24 hg ?_ | refine jstore (i := 2) rfl rfl rfl rfl rfl si9' hg ?_) | (show Jo _ (.call _); first | (show Jo _ (.call ⟨.builtin .len, _, _⟩); refine jy (ylens rfl Lw.und9) rfl rfl ?_) | (show Jo _ (.call ⟨.value (.func 35), _, _⟩); refine jcallq bo35 rfl rfl rfl (quietC fun w _ => bits_calls (by omega) ha w) ?_) | (show Jo _ (.call ⟨.builtin .append, _, _⟩); refine jappendP (k := 1) (r := r) (B := 0) (n := l.length) (xs := l.flatMap tiC) (news := asC ty s.size t) ([_, _, _] ++ E) (fun r' => [_, _, _] ++ (r'.mem (l.flatMap tiC ++ asC ty s.size t) 42 ++ E)) (perm_row [_, _, _] (r.mem (l.flatMap tiC) 42) E) (fun r' => (perm_row [_, _, _] _ _).symm) rfl rfl (src_blk (i := 0) 0 rfl (add_zero _) (fun j u hj => by rw [show 0 + j = j from Nat.zero_add j]; exact hj)) rfl (asC_one _ _ _) hr.ok (Nat.zero_le _) hr.may gr24 (by omega) (by simp only [maxLen]; omega) (by omega) rfl (fun r' hr' hmr' => ?_))) | (show Jo _ (.build _ _); refine jy (ybuild rfl (bu42' ty (s.size : Nat) t)) rfl rfl ?_) | (show Jo _ (.alloc _); refine jalloc ze42 rfl (fun g8 hT8 => ?_)) | (show Jo _ (.buildSlice _ 1 _); refine jlit1 (c := asC ty s.size t) rfl rfl rfl gr24 rfl rfl rfl (fun gl hTl => ?_))) | first | (show JT _ _ _ _ _ _ [] _ _; refine jtnil ?_) | (show JT _ _ _ _ _ _ (_ :: _) _ _; first | (show JT _ _ _ _ _ _ (⟨_, .move _, _, _, _, _⟩ :: _) _ _; refine jty (ymove rfl) rfl rfl ?_) | (show JT _ _ _ _ _ _ (⟨_, .nilCheck _, _, _, _, _⟩ :: _) _ _; refine jty (ynil rfl) rfl rfl ?_) | (show JT _ _ _ _ _ _ (⟨_, .fieldAddr _ _ _, _, _, _, _⟩ :: _) _ _; refine jty (yfield rfl (by (exact fb29_1)) rfl) rfl rfl ?_) | (show JT _ _ _ _ _ _ (⟨_, .load _ _, _, _, _, _⟩ :: _) _ _; first | refine jty (yload (i := 1) rfl rfl rfl (by (exact one9'))) rfl rfl ?_ | refine jty (yloads (i := 0) rfl rfl (by (exact ag42))) rfl rfl ?_)) | first | (show PJ _ (WKeep _ _ _) _ _; refine jas (fun _ h => h.less (by repeat (first | exact List.nil_sublist _ | refine List.Sublist.cons_cons _ ?_ | refine List.Sublist.cons _ ?_))) ?_) | (show PJ _ (WIf _ _ _) _ _; refine jaw ?_) | (show PJ _ (WAnyT _ _ _ _ _ _ _ _) _ _; first | refine jaqT (n := 8) (g' := 5) (D := []) [0, 1, 2, 3, 4, 5] rfl (fun _ h => h.less (by repeat (first | exact List.nil_sublist _ | refine List.Sublist.cons_cons _ ?_))) (by kernel_rfl) (by kernel_rfl) (by kernel_rfl) (by kernel_rfl) (by kernel_rfl) rfl (fun _ d _ _ _ h => by cases d <;> exact h) rfl ?_ | refine ja1T (n := 8) (g' := 4) (D := [0, 1, 2, 3, 4, 5]) 6 rfl rfl (by kernel_rfl) (by kernel_rfl) rfl ?_ | refine ja1T (n := 8) (g' := 3) (D := [0, 1, 2, 3, 4, 5, 6]) 7 rfl rfl (by kernel_rfl) (by kernel_rfl) rfl ?_ | refine jfullT (D := [0, 1, 2, 3, 4, 5, 6, 7]) (by kernel_rfl) ?_) | (show PJ _ (WAny _ _ _ _ _ _ _) _ _; first | refine jaq (g' := 1) (D := [0, 1, 2, 3, 4, 5, 6, 7]) [8, 9] rfl (fun _ h => h.less (by repeat ((exact List.nil_sublist _)))) (by kernel_rfl) (by kernel_rfl) rfl (fun _ d _ _ _ h => by cases d <;> exact h) rfl ?_ | refine ja1 (g' := 0) (D := [0, 1, 2, 3, 4, 5, 6, 7, 8, 9]) 10 rfl rfl (by kernel_rfl) rfl ?_ | refine jadone rfl (by kernel_rfl) ?_))
  refine end0 rfl rfl (fun w' hw' => ⟨r', rfl, ?_, BkOk.up hw ⟨by rw [e1, e2]; exact hr', hmr'⟩⟩)
  unfold bkM
  rw [e1, e2]
  exact (hw.up hw').less (List.Sublist.cons _ (List.Sublist.cons _ (List.Sublist.refl _)))
end Go.Proofs.YtkehggbmpdacpaaGreatDoor.Pg
namespace Go.Proofs.YtkehggbmpdacpaaGreatDoor.Lex0
open Go.Proofs.YtkehggbmpdacpaaGreatDoor.Dec0 Go.Proofs.YtkehggbmpdacpaaGreatDoor.Txt0
def lf (md : Bool) : T := if md then lmd else lno
def b0 : Book := ⟨[], []⟩
def Book.left (b : Book) (md : Bool) : Book := b.put (if md then 10 else 8) (lf md)
def Book.right (b : Book) (md : Bool) : Book := b.put (if md then 11 else 9) (rd md)
def Book.fin (b : Book) : Book := b.put 1 []
theorem lf_two (md : Bool) : ∃ d, lf md = [123, 123, d] := by cases md <;> exact ⟨_, rfl⟩
section
variable {E : Env} {s : T} {dv : Bool} {b : Book} {c : Ctl}
theorem g_open (hT : TrA E) (u : T) {r : T} (md : Bool) (ha : asc u) (h1 : ∀ c ∈ u, c ≠ 123) (h2 : dv = true → c.chk = false → ∀ d ∈ u, d ≠ if c.org then 35 else 60) (hi : c.inl = true → inlOk E r c.name = true) (hc : [47, 42].isPrefixOf r = false) :
    Go E s dv .main b (u ++ (lf md ++ r)) c .inside ((texts b u).left md) r { c with md := md, step := 0, par := 0 } := by
  refine g_left hT u md ha (fun x hx => ?_) hi hc
  obtain ⟨d, hd⟩ := lf_two md
  have e : (if md then lmd else lno : T) ++ r = 123 :: 123 :: (d :: r) := by rw [show (if md then lmd else lno : T) = lf md from rfl, hd]; rfl
  rw [e] at hx
  exact found_of_sim hx h1 h2
theorem g_open0 (hT : TrA E) {r : T} (md : Bool) (hi : c.inl = false) (hc : [47, 42].isPrefixOf r = false) : Go E s dv .main b (lf md ++ r) c .inside (b.left md) r { c with md := md, step := 0, par := 0 } := by
  have := g_open (E := E) (s := s) (dv := dv) (b := b) (c := c) hT [] (r := r) md (by intro c hc; cases hc) (by intro c hc; cases hc) (by intro _ _ c hc; cases hc) (by intro h; rw [hi] at h; cases h) hc
  rw [texts_nil] at this
  exact this
theorem g_close (hT : TrA E) {r : T} {md : Bool} (hm : c.md = md) : Go E s dv .inside b (32 :: (rd md ++ r)) c .main ((b.pass [32]).right md) r { c with closing := 0 } :=
  Go.trans (g_sp [32] (by intro c hc; revert c; decide)) (g_right hT hm)
theorem g_endc (hT : TrA E) {r : T} {md : Bool} (hm : c.md = md) (hi : c.inl = false) : Go E s dv .endsc b (32 :: (rd md ++ r)) c .main ((b.pass [32]).right md) r { c with closing := 0 } :=
  g_end hT [32] hm hi (by intro c hc; revert c; decide)
theorem no_cm {c : UInt8} {r : T} (h : c.toNat ≠ 47) : [47, 42].isPrefixOf (c :: r) = false := by
  show ((47 : UInt8) == c && _) = false
  rw [show ((47 : UInt8) == c) = false from by simpa using fun e : (47 : UInt8) = c => h (by rw [← e]; rfl)]
  rfl
theorem NameT.cm {w r : T} (h : NameT w) : [47, 42].isPrefixOf (w ++ r) = false := by
  cases w with
  | nil => exact absurd rfl h.ne
  | cons a w => exact no_cm (isW_no (h.h0 a rfl)).2.2.2.2.1
theorem g_on (hE : EA E) (hT : TrA E) {w r : T} (md : Bool) (hw : NameT w) (hi : c.inl = false) (hcl : c.closing = 0) : Go E s dv .main b (lf md ++ (w ++ 32 :: r)) c .inside ((b.left md).put 13 w) (32 :: r) (ctlN { c with md := md, step := 0, par := 0 } false w) := by
  refine Go.trans (g_open0 hT md hi hw.cm) ?_
  have := g_name (E := E) (s := s) (dv := dv) (b := b.left md) (c := { c with md := md, step := 0, par := 0 }) (r := r) hE hT hw hi rfl (.inl hcl)
  rw [show (if 0 < ({ c with md := md, step := 0, par := 0 } : Ctl).closing then St.endsc else .inside) = .inside from if_neg (by show ¬ 0 < c.closing; omega)] at this
  exact this
structure QT (v : T) : Prop where
  asc : asc v
  q : ∀ c ∈ v, c ≠ 92 ∧ c ≠ 10 ∧ c ≠ 34
theorem QT.val {v : T} (h : QT v) : ValT v := ⟨h.asc, fun c hc => ⟨(h.q c hc).1, (h.q c hc).2.1⟩, fun e => by
  cases v with
  | nil => cases e
  | cons a v => cases e; exact (h.q 34 (List.mem_cons_self ..)).2.2 rfl⟩
theorem QT.esc {v : T} (h : QT v) : escT v = v := escT_plain fun c hc => (h.q c hc).2.2
def bb (b : Book) (v : T) : Book := (b.pass [32]).put 15 v
def bS (vs : List T) : T := vs.flatMap fun v => 32 :: v
theorem sp_P : isP 32 = false := by decide
theorem g_bs (hE : EA E) (hT : TrA E) : ∀ (vs : List T) {b : Book} {r : T} {c : Ctl}, (∀ v ∈ vs, BareT v) → 0 < c.step → c.par ≠ 2 → ∃ p, p ≠ 2 ∧ Go E s dv .inside b (bS vs ++ 32 :: r) c .inside (vs.foldl bb b) (32 :: r) { c with par := p } := by
  intro vs
  induction vs with
  | nil => intro b r c _ _ hp; exact ⟨c.par, hp, Go.refl⟩
  | cons v vs ih =>
    intro b r c hv hst hp
    have hp' : (if c.par = 0 then (if (32 : UInt8) = 61 then 2 else 1) else c.par) ≠ 2 := by
      split
      · decide
      · exact hp
    obtain ⟨p, h1, h2⟩ := ih (b := bb b v) (r := r) (c := { c with par := if c.par = 0 then (if (32 : UInt8) = 61 then 2 else 1) else c.par }) (fun v h => hv v (List.mem_cons_of_mem _ h)) hst hp'
    refine ⟨p, h1, ?_⟩
    obtain ⟨q, hq⟩ : ∃ q, bS vs ++ 32 :: r = 32 :: q := by
      cases vs with
      | nil => exact ⟨r, rfl⟩
      | cons u vs => exact ⟨u ++ (bS vs ++ 32 :: r), by simp [bS]⟩
    have e : bS (v :: vs) ++ 32 :: r = 32 :: (v ++ (bS vs ++ 32 :: r)) := by simp [bS]
    rw [e]
    refine Go.trans (Go.trans (g_sp [32] (by intro c hc; revert c; decide)) ?_) h2
    rw [hq]
    exact g_bare hE hT (hv v (List.mem_cons_self ..)) hst (by decide) sp_P (by rw [if_neg (by decide)]; exact hp)
def bnb (b : Book) (p : T × T) : Book := ((b.pass [32]).put 15 p.1).pass [61] |>.put 16 p.2
def nbS (l : List (T × T)) : T := l.flatMap fun p => 32 :: (p.1 ++ 61 :: p.2)
theorem eq_P : isP 61 = false := by decide
theorem g_key (hE : EA E) (hT : TrA E) {w r : T} (hw : BareT w) (hst : 0 < c.step) (hp : c.par ≠ 1) : Go E s dv .inside b (32 :: (w ++ 61 :: r)) c .inside ((b.pass [32]).put 15 w) (61 :: r) { c with par := if c.par = 0 then 2 else c.par } :=
  Go.trans (g_sp [32] (by intro c hc; revert c; decide)) (g_bare hE hT hw hst (by decide) eq_P (by rw [if_pos rfl]; exact hp))
theorem par_key {p : Nat} (h : p ≠ 1) : (if p = 0 then 2 else p) ≠ 1 := by split; decide; exact h
theorem g_nb (hE : EA E) (hT : TrA E) : ∀ (l : List (T × T)) {b : Book} {r : T} {c : Ctl}, (∀ p ∈ l, BareT p.1 ∧ BareT p.2) → 0 < c.step → c.par ≠ 1 → ∃ q, q ≠ 1 ∧ Go E s dv .inside b (nbS l ++ 32 :: r) c .inside (l.foldl bnb b) (32 :: r) { c with par := q } := by
  intro l
  induction l with
  | nil => intro b r c _ _ hp; exact ⟨c.par, hp, Go.refl⟩
  | cons p l ih =>
    intro b r c hv hst hp
    obtain ⟨h0, h1⟩ := hv p (List.mem_cons_self ..)
    obtain ⟨q, h2, h3⟩ := ih (b := bnb b p) (r := r) (c := { c with par := if c.par = 0 then 2 else c.par }) (fun v h => hv v (List.mem_cons_of_mem _ h)) hst (par_key hp)
    refine ⟨q, h2, ?_⟩
    obtain ⟨t, ht⟩ : ∃ t, nbS l ++ 32 :: r = 32 :: t := by
      cases l with
      | nil => exact ⟨r, rfl⟩
      | cons u l => exact ⟨u.1 ++ 61 :: (u.2 ++ (nbS l ++ 32 :: r)), by simp [nbS]⟩
    have e : nbS (p :: l) ++ 32 :: r = 32 :: (p.1 ++ 61 :: (p.2 ++ (nbS l ++ 32 :: r))) := by simp [nbS]
    rw [e]
    refine Go.trans ?_ h3
    rw [ht]
    exact Go.trans (g_key hE hT h0 hst hp) (g_eqB hT h1)
end
section
variable {E : Env} (hE : EA E) (hT : TrA E) (dv md : Bool) {w : T} (hw : NameT w)
include hE hT hw
theorem law_params {S : T} {B : Book} (h : ∀ s, ∃ p, Go E s dv .inside ((b0.left md).put 13 w) (S ++ 32 :: (rd md ++ [])) (ctlN { c0 with md := md, step := 0, par := 0 } false w) .inside B (32 :: (rd md ++ [])) { ctlN { c0 with md := md, step := 0, par := 0 } false w with par := p }) (h0 : ∃ r, S ++ 32 :: (rd md ++ []) = 32 :: r) :
    Tells E (lf md ++ (w ++ (S ++ 32 :: (rd md ++ [])))) false dv ((B.pass [32]).right md).fin.l := by
  obtain ⟨p, hp⟩ := h (lf md ++ (w ++ (S ++ 32 :: (rd md ++ []))))
  obtain ⟨r, hr⟩ := h0
  refine tells_of hT (Go.trans ?_ (Go.trans hp (g_close hT rfl)))
  rw [hr]
  exact g_on hE hT md hw rfl rfl
theorem sp_ahead {f : T → T} (vs : List T) (hf : ∀ v, ∃ r, f v = 32 :: r) (q : T) : ∃ r, vs.flatMap f ++ 32 :: q = 32 :: r := by
  cases vs with
  | nil => exact ⟨q, rfl⟩
  | cons v vs => obtain ⟨r, hr⟩ := hf v; exact ⟨r ++ (vs.flatMap f ++ 32 :: q), by rw [List.flatMap_cons, hr]; simp⟩
theorem law_bare (vs : List T) (hv : ∀ v ∈ vs, BareT v) : Tells E (lf md ++ (w ++ (bS vs ++ 32 :: (rd md ++ [])))) false dv (((vs.foldl bb ((b0.left md).put 13 w)).pass [32]).right md).fin.l :=
  law_params hE hT dv md hw (fun s => by obtain ⟨p, _, h⟩ := g_bs (s := s) (dv := dv) hE hT vs (r := rd md ++ []) (c := ctlN { c0 with md := md, step := 0, par := 0 } false w) hv (Nat.succ_pos 0) (show (0 : Nat) ≠ 2 by decide); exact ⟨p, h⟩) (sp_ahead hE hT hw vs (fun v => ⟨_, rfl⟩) _)
theorem sp_ahead2 {f : T × T → T} (vs : List (T × T)) (hf : ∀ v, ∃ r, f v = 32 :: r) (q : T) : ∃ r, vs.flatMap f ++ 32 :: q = 32 :: r := by
  cases vs with
  | nil => exact ⟨q, rfl⟩
  | cons v vs => obtain ⟨r, hr⟩ := hf v; exact ⟨r ++ (vs.flatMap f ++ 32 :: q), by rw [List.flatMap_cons, hr]; simp⟩
theorem law_namedb (l : List (T × T)) (hv : ∀ p ∈ l, BareT p.1 ∧ BareT p.2) : Tells E (lf md ++ (w ++ (nbS l ++ 32 :: (rd md ++ [])))) false dv (((l.foldl bnb ((b0.left md).put 13 w)).pass [32]).right md).fin.l :=
  law_params hE hT dv md hw (fun s => by obtain ⟨p, _, h⟩ := g_nb (s := s) (dv := dv) hE hT l (r := rd md ++ []) (c := ctlN { c0 with md := md, step := 0, par := 0 } false w) hv (Nat.succ_pos 0) (show (0 : Nat) ≠ 1 by decide); exact ⟨p, h⟩) (sp_ahead2 hE hT hw l (fun v => ⟨_, rfl⟩) _)
end
end Go.Proofs.YtkehggbmpdacpaaGreatDoor.Lex0
namespace Go.Proofs.YtkehggbmpdacpaaGreatDoor.Pg
open Go.Rx hiding bt
open Go.RowKit Go.Proofs.YtkehggbmpdacpaaGreatDoor.Dec0 Go.Proofs.YtkehggbmpdacpaaGreatDoor.Lex0
theorem bo23 : bodyB Tryz.prog 23 = true := by kernel_rfl
theorem bo26 : bodyB Tryz.prog 26 = true := by kernel_rfl
theorem bo27 : bodyB Tryz.prog 27 = true := by kernel_rfl
@[reducible] def bkS (g : Nat) (B : Book) (r : Row) (E : Mem) : Mem := bkM g (ba B.s) r B.l E
def bsz (B : Book) : Nat := B.s.length + B.l.length
theorem ba_app (a b : T) : ba (a ++ b) = ba a ++ ba b := by
  rw [Txt0.data_inj]
  simp [ba]
theorem bsz_as (B : Book) (ty : Nat) (u t : T) : bsz (B.as_ ty u t) = bsz B + u.length + 1 := by
  show (B.s ++ u).length + (B.l ++ [_]).length = _
  simp only [List.length_append, List.length_cons, List.length_nil, bsz]
  omega
theorem bsz_put (B : Book) (ty : Nat) (u : T) : bsz (B.put ty u) = bsz B + u.length + 1 := bsz_as B ty u u
theorem bsz_pass (B : Book) (u : T) : bsz (B.pass u) = bsz B + u.length := by
  show (B.s ++ u).length + B.l.length = _
  simp only [List.length_append, bsz]
  omega
theorem bsz_left (B : Book) (md : Bool) : bsz (B.left md) = bsz B + 4 := by rw [Book.left, bsz_put]; cases md <;> rfl
theorem bsz_right (B : Book) (md : Bool) : bsz (B.right md) = bsz B + 4 := by rw [Book.right, bsz_put]; cases md <;> rfl
theorem bsz_fin (B : Book) : bsz B.fin = bsz B + 1 := by rw [Book.fin, bsz_put]; rfl
theorem bsz_b0 : bsz b0 = 0 := rfl
section
variable {X : Cx} {g : Nat} (hg : X.may g) {B : Book} {r : Row} {E : Mem} (hr : BkOk X r B.l)
include hg hr
theorem asB_calls (hn : bsz B ≤ 1000000000 - 1) {ty : Nat} (hty : ty ≤ 18) {u t : ByteArray} (hus : u.size ≤ 1099511627776) (hts : t.size ≤ 1099511627776) (ha : asc t.data.toList) :
    ∀ w, Cl X (bkS g B r E) w → Calls Tryz.prog 39 #[.pointer (some ⟨g, 0, none⟩), .int .i64 (ty : Nat), .string u, .string t] w fun e w' => ∃ r' : Row, e = .returned (.tuple #[]) ∧ Cl X (bkS g (B.as_ ty u.data.toList t.data.toList) r' E) w' ∧ BkOk X r' (B.as_ ty u.data.toList t.data.toList).l := fun w hw => by
  have h := as_calls (E := E) (s := ba B.s) hg hr (by unfold bsz at hn; omega) hty (u := u) (t := t) (by omega) ha (by rw [ba_size]; unfold bsz at hn; omega) w hw
  have e : ba B.s ++ u = ba (B.as_ ty u.data.toList t.data.toList).s := by show _ = ba (B.s ++ u.data.toList); rw [ba_app]; rfl
  rw [e] at h
  exact h
theorem passB_calls (hn : bsz B ≤ 1000000000) {u : ByteArray} (hus : u.size ≤ 1099511627776) :
    ∀ w, Cl X (bkS g B r E) w → Calls Tryz.prog 25 #[.pointer (some ⟨g, 0, none⟩), .string u] w fun e w' => e = .returned (.tuple #[]) ∧ Cl X (bkS g (B.pass u.data.toList) r E) w' := fun w hw => by
  have h := pass_calls (X := X) hg (txt := ba B.s) (s := u) (v := r.val B.l.length) (E := r.mem (B.l.flatMap tiC) 42 ++ E) (by rw [ba_size]; unfold bsz at hn; omega) w hw
  have e : ba B.s ++ u = ba (B.pass u.data.toList).s := by show _ = ba (B.s ++ u.data.toList); rw [ba_app]; rfl
  rw [e] at h
  exact h
theorem passR_calls (hn : bsz B ≤ 1000000000) {u : ByteArray} (hus : u.size ≤ 1099511627776) :
    ∀ w, Cl X (bkS g B r E) w → Calls Tryz.prog 25 #[.pointer (some ⟨g, 0, none⟩), .string u] w fun e w' => ∃ r' : Row, e = .returned (.tuple #[]) ∧ Cl X (bkS g (B.pass u.data.toList) r' E) w' ∧ BkOk X r' (B.pass u.data.toList).l := fun w hw =>
  (passB_calls hg hr hn hus w hw).mono fun e w' ⟨h1, h2⟩ => ⟨r, h1, h2, hr⟩
theorem putB_calls (hn : bsz B ≤ 1000000000 - 1) {ty : Nat} (hty : ty ≤ 18) {u : ByteArray} (hus : u.size ≤ 1099511627776) (ha : asc u.data.toList) :
    ∀ w, Cl X (bkS g B r E) w → Calls Tryz.prog 24 #[.pointer (some ⟨g, 0, none⟩), .int .i64 (ty : Nat), .string u] w fun e w' => ∃ r' : Row, e = .returned (.tuple #[]) ∧ Cl X (bkS g (B.put ty u.data.toList) r' E) w' ∧ BkOk X r' (B.put ty u.data.toList).l := by
  intro w hw
  refine enterC 11 hw Tryz.func24 rfl rfl (vs := [.pointer (some ⟨g, 0, none⟩), .int .i64 (ty : Nat), .string u]) rfl ?_
  replace hg := Cx.may_sub (n := 11) (w := w) hg
  replace hr := hr.sub 11 hw
  conv => arg 2; arg 2; whnf
  repeat' (first | (show PJ _ (Code.wp _ _ _) _ _; (refine rtext ?_)) | refine jnil ?_ | (first | refine jmv rfl rfl rfl ?_ | (show Jo _ (.call _); ((show Jo _ (.call ⟨.value (.func 39), _, _⟩); refine jcall (ι := Row) (v := fun _ => .tuple #[]) (m' := fun r' => bkS g (B.as_ ty u.data.toList u.data.toList) r' E) (fun r' => BkOk _ r' (B.as_ ty u.data.toList u.data.toList).l) bo39 rfl rfl rfl (asB_calls hg hr hn hty hus hus ha) (fun r' hr' => ?_))))))
  exact end0 rfl rfl (fun w' hw' => ⟨r', rfl, hw.up hw', BkOk.up hw hr'⟩)
end
theorem asc_lits : asc (⟨#[123, 123, 37]⟩ : ByteArray).data.toList ∧ asc (⟨#[123, 123, 60]⟩ : ByteArray).data.toList ∧ asc (⟨#[37, 125, 125]⟩ : ByteArray).data.toList ∧ asc (⟨#[62, 125, 125]⟩ : ByteArray).data.toList ∧ asc (⟨#[]⟩ : ByteArray).data.toList := by
  refine ⟨?_, ?_, ?_, ?_, ?_⟩ <;> (intro c hc; revert c; decide)
section
variable {X : Cx} {g : Nat} (hg : X.may g) {B : Book} {r : Row} {E : Mem} (hr : BkOk X r B.l) (hn : bsz B ≤ 1000000000 - 10)
include hg hr hn
theorem leftB_calls (md : Bool) : ∀ w, Cl X (bkS g B r E) w → Calls Tryz.prog 23 #[.pointer (some ⟨g, 0, none⟩), .bool md] w fun e w' => ∃ r' : Row, e = .returned (.tuple #[]) ∧ Cl X (bkS g (B.left md) r' E) w' ∧ BkOk X r' (B.left md).l := by
  intro w hw
  refine enterC 9 hw Tryz.func23 rfl rfl (vs := [.pointer (some ⟨g, 0, none⟩), .bool md]) rfl ?_
  replace hg := Cx.may_sub (n := 9) (w := w) hg
  replace hr := hr.sub 9 hw
  conv => arg 2; arg 2; whnf
  cases md
  all_goals
    repeat' (first | refine cseq ?_ | refine rtext ?_ | refine ctrue rfl ?_ | refine cfalse rfl ?_ | refine jnil ?_ | (first | refine jmv rfl rfl rfl ?_ | (show Jo _ (.call _); first | (show Jo (some 6) (.call ⟨.value (.func 24), _, _⟩); refine jcall (ι := Row) (v := fun _ => .tuple #[]) (m' := fun r' => bkS g (B.put 10 [123, 123, 37]) r' E) (fun r' => BkOk _ r' (B.put 10 [123, 123, 37]).l) bo24 rfl rfl rfl (putB_calls hg hr (by omega) (ty := 10) (u := ⟨#[123, 123, 37]⟩) (by decide) (by decide) asc_lits.1) (fun r' hr' => ?_)) | (show Jo (some 8) (.call ⟨.value (.func 24), _, _⟩); refine jcall (ι := Row) (v := fun _ => .tuple #[]) (m' := fun r' => bkS g (B.put 8 [123, 123, 60]) r' E) (fun r' => BkOk _ r' (B.put 8 [123, 123, 60]).l) bo24 rfl rfl rfl (putB_calls hg hr (by omega) (ty := 8) (u := ⟨#[123, 123, 60]⟩) (by decide) (by decide) asc_lits.2.1) (fun r' hr' => ?_)))))
    exact end0 rfl rfl (fun w' hw' => ⟨r', rfl, hw.up hw', BkOk.up hw hr'⟩)
theorem rightB_calls (md : Bool) : ∀ w, Cl X (bkS g B r E) w → Calls Tryz.prog 26 #[.pointer (some ⟨g, 0, none⟩), .bool md] w fun e w' => ∃ r' : Row, e = .returned (.tuple #[]) ∧ Cl X (bkS g (B.right md) r' E) w' ∧ BkOk X r' (B.right md).l := by
  intro w hw
  refine enterC 9 hw Tryz.func26 rfl rfl (vs := [.pointer (some ⟨g, 0, none⟩), .bool md]) rfl ?_
  replace hg := Cx.may_sub (n := 9) (w := w) hg
  replace hr := hr.sub 9 hw
  conv => arg 2; arg 2; whnf
  cases md
  all_goals
    repeat' (first | refine cseq ?_ | refine rtext ?_ | refine ctrue rfl ?_ | refine cfalse rfl ?_ | refine jnil ?_ | (first | refine jmv rfl rfl rfl ?_ | (show Jo _ (.call _); first | (show Jo (some 6) (.call ⟨.value (.func 24), _, _⟩); refine jcall (ι := Row) (v := fun _ => .tuple #[]) (m' := fun r' => bkS g (B.put 11 [37, 125, 125]) r' E) (fun r' => BkOk _ r' (B.put 11 [37, 125, 125]).l) bo24 rfl rfl rfl (putB_calls hg hr (by omega) (ty := 11) (u := ⟨#[37, 125, 125]⟩) (by decide) (by decide) asc_lits.2.2.1) (fun r' hr' => ?_)) | (show Jo (some 8) (.call ⟨.value (.func 24), _, _⟩); refine jcall (ι := Row) (v := fun _ => .tuple #[]) (m' := fun r' => bkS g (B.put 9 [62, 125, 125]) r' E) (fun r' => BkOk _ r' (B.put 9 [62, 125, 125]).l) bo24 rfl rfl rfl (putB_calls hg hr (by omega) (ty := 9) (u := ⟨#[62, 125, 125]⟩) (by decide) (by decide) asc_lits.2.2.2.1) (fun r' hr' => ?_)))))
    exact end0 rfl rfl (fun w' hw' => ⟨r', rfl, hw.up hw', BkOk.up hw hr'⟩)
theorem endB_calls : ∀ w, Cl X (bkS g B r E) w → Calls Tryz.prog 27 #[.pointer (some ⟨g, 0, none⟩)] w fun e w' => ∃ r' : Row, e = .returned (.tuple #[]) ∧ Cl X (bkS g B.fin r' E) w' ∧ BkOk X r' B.fin.l := by
  intro w hw
  refine enterC 4 hw Tryz.func27 rfl rfl (vs := [.pointer (some ⟨g, 0, none⟩)]) rfl ?_
  replace hg := Cx.may_sub (n := 4) (w := w) hg
  replace hr := hr.sub 4 hw
  conv => arg 2; arg 2; whnf
  repeat' (first | (show PJ _ (Code.wp _ _ _) _ _; (refine rtext ?_)) | refine jnil ?_ | (first | refine jmv rfl rfl rfl ?_ | (show Jo _ (.call _); ((show Jo (some 3) (.call ⟨.value (.func 24), _, _⟩); refine jcall (ι := Row) (v := fun _ => .tuple #[]) (m' := fun r' => bkS g (B.put 1 []) r' E) (fun r' => BkOk _ r' (B.put 1 []).l) bo24 rfl rfl rfl (putB_calls hg hr (by omega) (ty := 1) (u := ⟨#[]⟩) (by decide) (by decide) asc_lits.2.2.2.2) (fun r' hr' => ?_))))))
  exact end0 rfl rfl (fun w' hw' => ⟨r', rfl, hw.up hw', BkOk.up hw hr'⟩)
end
end Go.Proofs.YtkehggbmpdacpaaGreatDoor.Pg
