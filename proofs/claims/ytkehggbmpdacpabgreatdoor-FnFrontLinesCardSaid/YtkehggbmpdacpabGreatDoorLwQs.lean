/- laws.quotables: whether all texts may stand between quotes. -/
import Derived.Test.YtkehggbmpdacpabGreatDoorKp15
import Derived.Test.YtkehggbmpdacpabGreatDoorKp16
set_option maxRecDepth 100000
set_option linter.unusedVariables false
set_option linter.unusedSimpArgs false
set_option linter.unusedSectionVars false
namespace Go.Proofs.YtkehggbmpdacpabGreatDoor.Lw
open Go.Rx
open Go.RowKit Go.Proofs.YtkehggbmpdacpabGreatDoor.Dec0 Go.Proofs.YtkehggbmpdacpabGreatDoor.Txt0
theorem boQs : bodyB Tryz.prog 17 = true := by kernel_rfl
set_option maxHeartbeats 1000000 in
theorem quotables_calls (l : List ByteArray) (v : Value) (w : World) (ha : RowAt nof w v l.length (strs l)) (hl : l.length ≤ 9223372036854775806) (hs : ∀ x ∈ l, x.size ≤ 2147483647) :
    Calls Tryz.prog 17 #[v] w fun e w' => ∃ b, e = .returned (.bool b) ∧ Below w.heap.size w w' ∧ (b = true → l.length ≤ 50 ∧ ∀ x ∈ l, QuoteF x) := by
  obtain ⟨A, c, rfl, ha⟩ := ha
  refine enter (fun _ => False) 18 [] Tryz.func17 rfl rfl rfl (vs := [.slice A l.length c]) (Has.nil _) ?_
  conv => arg 2; arg 2; whnf
  have post : ∀ (f : Fr) (m : Mem) (b : Bool), (b = true → l.length ≤ 50 ∧ ∀ x ∈ l, QuoteF x) → Rx.look f 2 = some (.bool b) → PJ ⟨18, [], fun _ => False, w⟩ (bodyPost Tryz.prog Tryz.f17 (fun e w' => ∃ b, e = .returned (.bool b) ∧ Below w.heap.size w w' ∧ (b = true → l.length ≤ 50 ∧ ∀ x ∈ l, QuoteF x)) .ret) f m := fun f m b hb hf =>
    ret1 rfl rfl hf (fun w' hw' => ⟨b, rfl, hw'.2.below (fun k _ h => h) (Nat.le_refl _), hb⟩)
  repeat' ((fail_if_success (show PJ _ (Code.wp _ (Code.loop _) _) _ _)); first | first | refine cseq ?_ | refine rtext ?_ | refine cblk ?_ | refine jnil ?_ | (first | refine jmv rfl rfl rfl ?_ | refine jas_ rfl rfl rfl ?_ | (show Jo _ (.call _); ((show Jo _ (.call ⟨.builtin .len, _, _⟩); refine jy (ylenl rfl und24) rfl rfl ?_)))))
  refine fin (f' := [(0, .slice A l.length c), (5, .slice A l.length c), (6, .int .i64 l.length), (7, .int .i64 (0 : Nat))]) (m' := [])
    (cloop (ι := Nat) (fun j => [(0, .slice A l.length c), (5, .slice A l.length c), (6, .int .i64 l.length), (7, .int .i64 (j : Nat))]) (fun _ => []) (fun k j => j ≤ l.length ∧ k = l.length - j ∧ ∀ i x, i < j → l[i]? = some x → QuoteF x) l.length 0 ⟨Nat.zero_le _, rfl, fun i x h => absurd h (Nat.not_lt_zero _)⟩ ?_) ⟨rfl, rfl, rfl, rfl, trivial⟩ rfl
  rintro k j ⟨hj, rfl, hall⟩ K hK
  by_cases hlt : j < l.length
  · obtain ⟨x, hx⟩ : ∃ x, l[j]? = some x := ⟨_, List.getElem?_eq_getElem hlt⟩
    have hxs := hs x (List.mem_of_getElem? hx)
    obtain ⟨ad, rfl, _, hc⟩ := ha j (.string x) (by simp [strs, hx])
    repeat' (first | refine cseq ?_ | refine rtext ?_ | refine ctrue rfl ?_ | refine cfalse rfl ?_ | refine cskip ?_ | refine cblk ?_ | refine cret ?_ | refine tnorm ?_ | refine tret ?_ | refine bret ?_ | refine jnil ?_ | (first | refine jmv rfl rfl rfl ?_ | (show Jo _ (.load _ _); refine jy (yloadw rfl hc (fun h => h) one9) rfl rfl ?_) | refine jas_ rfl rfl rfl ?_ | (show Jo _ (.binOp _ _ _ _ _); first | (show Jo _ (.binOp .add _ _ _ _); refine jy (yadd (c := ((j + 1 : Nat) : Int)) rfl rfl (by rw [i64_in (by omega) (by omega)]; omega)) rfl rfl ?_) | refine jy (ylss rfl rfl (by (exact decide_eq_true (by omega)))) rfl rfl ?_) | refine jy (ynot rfl rfl) rfl rfl ?_ | (show Jo _ (.call _); ((show Jo _ (.call ⟨.value (.func 16), _, _⟩); refine jcall (ι := Bool) (v := fun b => .bool b) (m' := fun _ => _) (fun b => b = true → QuoteF x) boQt rfl rfl rfl (quotable_in (by omega)) (fun b hk => ?_); refine jcases (fun hb => ?_) (fun hb => ?_); try replace hb := hk hb))) | (show Jo _ (.indexAddr _ _ _); refine jy (yat (p' := ad.add j) rfl rfl und24 sz9 (by omega) (by omega) (by simp)) rfl rfl ?_)))
    all_goals first
      | exact post _ _ false (fun h => by cases h) rfl
      | exact fin (hK (l.length - (j + 1)) (j + 1) (by omega) ⟨by omega, rfl, fun i y hi hy => by
          rcases Nat.lt_succ_iff_lt_or_eq.1 hi with h | h
          · exact hall i y h hy
          · subst h; rw [hx] at hy; cases hy; exact hb⟩) ⟨rfl, rfl, rfl, rfl, trivial⟩ rfl
  · obtain rfl : j = l.length := by omega
    repeat' (first | refine cseq ?_ | refine rtext ?_ | refine cfalse rfl ?_ | refine cret ?_ | refine cexit ?_ | refine jnil ?_ | (first | refine jmv rfl rfl rfl ?_ | refine jas_ rfl rfl rfl ?_ | (show Jo _ (.binOp _ _ _ _ _); first | (show Jo _ (.binOp .leq _ _ _ _); refine jleq rfl rfl rfl rfl (fun hq => ?_) (fun hq => ?_)) | refine jy (ylss rfl rfl (by (exact decide_eq_false (by omega)))) rfl rfl ?_) | (show Jo _ (.call _); ((show Jo _ (.call ⟨.builtin .len, _, _⟩); refine jy (ylenl rfl und24) rfl rfl ?_)))))
    all_goals first
      | exact post _ _ false (fun h => by cases h) rfl
      | exact post _ _ true (fun _ => ⟨by omega, fun x hx => by obtain ⟨i, hi⟩ := List.getElem?_of_mem hx; exact hall i x (List.getElem?_eq_some_iff.1 hi).1 hi⟩) rfl
theorem quotables_in {X : Cx} {m : Mem} {l : List ByteArray} {v : Value} (ha : RowAt nof X.w0 v l.length (strs l)) (hS : ∀ k, X.S k → False) (hl : l.length ≤ 9223372036854775806) (hs : ∀ x ∈ l, x.size ≤ 2147483647) : ∀ w, Cl X m w → Calls Tryz.prog 17 #[v] w fun e w' => ∃ b, e = .returned (.bool b) ∧ Cl X m w' ∧ (b = true → l.length ≤ 50 ∧ ∀ x ∈ l, QuoteF x) := fun w hw =>
  (quotables_calls l v w (ha.of_evo hw.2 hS) hl hs).mono fun e w' ⟨b, h1, h2, h3⟩ => ⟨b, h1, hw.below h2, h3⟩
end Go.Proofs.YtkehggbmpdacpabGreatDoor.Lw
