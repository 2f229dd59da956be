/- What sameTexts answers of lists of the same texts (the printed function of one statement). -/
import Derived.Test.YtelijbnnhgmklaaPFnFieldsx1
import Derived.Test.YtelijbnnhgmklaaLib0
namespace Go.Proofs.Ytelijbnnhgmklaa.Same0FnFields
open Go.RowKit Go.Proofs.Ytelijbnnhgmklaa.PFnFields Go.Proofs.YtelijbnnhgmklaaW.PrintWords Go.Proofs.YtelijbnnhgmklaaW.PrintLast Go.Proofs.Ytelijbnnhgmklaa.Lib0

def datas (l : List ByteArray) : List (List UInt8) := l.map (fun x => x.data.toList)
theorem datas_inj {a b : List ByteArray} (h : datas a = datas b) : a = b := by
  induction a generalizing b with
  | nil => cases b with
    | nil => rfl
    | cons y b => simp [datas] at h
  | cons x a ih => cases b with
    | nil => simp [datas] at h
    | cons y b =>
      simp only [datas, List.map_cons, List.cons.injEq] at h
      rw [bytes_ext h.1, ih h.2]

theorem same_loop (l : List ByteArray) (hl : l.length ≤ 8796093022208) : ∀ (d i : Nat), l.length - i = d → i ≤ l.length → Ev (fun k => laws_sameTexts.l0 k l l (l.length : Int) i) true := by
  intro d
  induction d with
  | zero =>
    intro i hd hi
    refine Ev.step (f := fun _ => some true) (fun k => ?_) (Ev.now _)
    simp only [laws_sameTexts.l0]; rw [if_neg (by omega)]
  | succ d ih =>
    intro i hd hi
    refine Ev.step (fun k => ?_) (ih (i + 1) (by omega) (by omega))
    have b1 : (i : Int) < (l.length : Int) := by omega
    have b2 : (0 : Int) ≤ (i : Int) := by omega
    have b3 : wrap64 ((i : Int) + 1) = ((i + 1 : Nat) : Int) := by rw [wrap_id _ (by omega)]; rfl
    simp only [laws_sameTexts.l0, if_pos b1, if_pos b2, if_true, b3]

theorem same_true (l : List ByteArray) (hl : l.length ≤ 8796093022208) : Ev (fun k => laws_sameTexts.f k l l) true := by
  refine Ev.congr (fun k => ?_) (same_loop l hl l.length 0 (by omega) (by omega))
  unfold laws_sameTexts.f; rw [if_pos rfl]; rfl

end Go.Proofs.Ytelijbnnhgmklaa.Same0FnFields
