/- FnDir, the plain law: what stands ahead of a path's last element is the same by the code and by the reference, for every text. No condition beyond the row's own. -/
import Derived.Test.YtelijbnnhgmklaaDir0FnDir
namespace Go.Proofs.Ytelijbnnhgmklaa.Pure
open Go.RowKit Go.Proofs.Ytelijbnnhgmklaa.PFnDir Go.Proofs.YtelijbnnhgmklaaW.PrintWords Go.Proofs.YtelijbnnhgmklaaW.PrintLast Go.Proofs.Ytelijbnnhgmklaa.Lib0 Go.Proofs.Ytelijbnnhgmklaa.Dir0FnDir

theorem last_spec (s : ByteArray) (c : Int) (hs : s.size ≤ 140737488351232) : ∀ (d : Nat) (i at_ : Int), 0 ≤ i → i ≤ s.size → (s.size : Int) - i = d →
    IsLast s c (i - 1) at_ → ∃ r, Ev (fun k => spec_pathLast.l0 k s c at_ i) r ∧ IsLast s c ((s.size : Int) - 1) r := by
  intro d
  induction d with
  | zero =>
    intro i at_ h0 h1 hd h
    have e : i = s.size := by omega
    subst e
    refine ⟨at_, Ev.step (f := fun _ => some at_) (fun k => ?_) (Ev.now _), h⟩
    simp only [spec_pathLast.l0]; rw [if_neg (by omega)]
  | succ d ih =>
    intro i at_ h0 h1 hd h
    by_cases hb : bt s i = c
    · obtain ⟨r, hr, g⟩ := ih (i + 1) i (by omega) (by omega) (by omega) ⟨by omega, by omega, fun j a b => by omega, fun _ => hb⟩
      refine ⟨r, Ev.step (fun k => ?_) hr, g⟩
      simp only [spec_pathLast.l0]; rw [if_pos (by omega), if_pos (by omega), if_pos hb, wrap_id _ (by omega)]
    · obtain ⟨r, hr, g⟩ := ih (i + 1) at_ (by omega) (by omega) (by omega) ⟨h.lo, by have := h.hi; omega, fun j a b => by
        by_cases e : j = i
        · rw [e]; exact hb
        · exact h.none j a (by omega), h.here⟩
      refine ⟨r, Ev.step (fun k => ?_) hr, g⟩
      simp only [spec_pathLast.l0]; rw [if_pos (by omega), if_pos (by omega), if_neg hb, wrap_id _ (by omega)]

theorem spec_at (s : ByteArray) (hs : s.size ≤ 140737488351232) (r : Int) (hl : IsLast s 47 ((s.size : Int) - 1) r) :
    Ev (fun k => spec_Dir.f k s) (if 1 < r + 1 then s.extract 0 r.toNat else s.extract 0 (r + 1).toNat) := by
  obtain ⟨r', hr', hl'⟩ := last_spec s 47 hs s.size 0 (-1) (by omega) (by omega) (by omega) ⟨by omega, by omega, fun j a b => by omega, fun h => by omega⟩
  obtain rfl := hl.uniq hl'
  have lo := hl.lo
  have hi := hl.hi
  have hz : (s.extract 0 (r + 1).toNat).size = (r + 1).toNat := by simp; omega
  refine Ev.congr (f := fun k => (spec_pathLast.l0 k s 47 (-1) 0).bind _) (fun k => by unfold spec_Dir.f spec_pathLast.f; rfl) ?_
  refine Ev.bind (f := fun _ t => _) hr' ?_
  simp only [wrap_id (r + 1) (by omega), hz]
  rw [if_pos (by omega), if_pos (by omega)]
  by_cases h1 : 1 < r + 1
  · rw [if_pos h1, wrap_id _ (by omega), show (((r + 1).toNat : Int) - 1) = r by omega]
    rw [if_pos (by omega), if_pos (by omega), if_pos (by omega)]
    have : (s.extract 0 (r + 1).toNat).extract 0 r.toNat = s.extract 0 r.toNat := by
      apply bytes_ext
      rw [data_ext, data_ext, data_ext]
      simp only [List.drop_zero, List.take_take]
      rw [Nat.min_eq_left (by omega)]
    rw [this]
    exact Ev.now _
  · rw [if_neg h1, if_neg (by omega)]
    exact Ev.now _

theorem FnDir : laws_FnDir.Pure := by
  intro s hs
  refine Ev.rounds ?_
  by_cases h1 : (s.size : Int) > 2147483647
  · exact Ev.congr (f := fun _ => some true) (fun k => by unfold laws_FnDir.f; rw [if_pos h1]) (Ev.now _)
  by_cases h2 : (s.size : Int) > 65536
  · exact Ev.congr (f := fun _ => some true) (fun k => by unfold laws_FnDir.f; rw [if_neg h1, if_pos h2]) (Ev.now _)
  obtain ⟨r, _, hl⟩ := last_code s 47 (by omega) s.size (by omega)
  refine Ev.congr (f := fun k => (impl_Dir.f k s).bind fun t => (spec_Dir.f k s).bind fun u => some (t.toList == u.toList)) (fun k => by unfold laws_FnDir.f; rw [if_neg h1, if_neg h2]) ?_
  refine Ev.bind (f := fun k t => (spec_Dir.f k s).bind fun u => some (t.toList == u.toList)) (dir_at s (by omega) r hl) ?_
  refine Ev.bind (f := fun k u => some (_ == u.toList)) (spec_at s hs r hl) ?_
  simp only [beq_self_eq_true]
  exact Ev.now _

end Go.Proofs.Ytelijbnnhgmklaa.Pure
