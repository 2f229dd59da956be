/- What paths.Dir answers: all ahead of the last slash (the printed functions of one statement). -/
import Derived.Test.YtelijbnnhgmklaaPFnDirJoinedx1
import Derived.Test.YtelijbnnhgmklaaLib0
namespace Go.Proofs.Ytelijbnnhgmklaa.Dir0FnDirJoined
open Go.RowKit Go.Proofs.Ytelijbnnhgmklaa.PFnDirJoined Go.Proofs.YtelijbnnhgmklaaW.PrintWords Go.Proofs.YtelijbnnhgmklaaW.PrintLast Go.Proofs.Ytelijbnnhgmklaa.Lib0

/-- the place of the last such byte up to i. -/
structure IsLast (s : ByteArray) (c : Int) (i r : Int) : Prop where
  lo : -1 ≤ r
  hi : r ≤ i
  none : ∀ j, r < j → j ≤ i → bt s j ≠ c
  here : 0 ≤ r → bt s r = c

theorem IsLast.uniq {s : ByteArray} {c i r q : Int} (h : IsLast s c i r) (k : IsLast s c i q) : r = q := by
  rcases Int.lt_trichotomy r q with x | x | x
  · have h0 := h.lo
    exact absurd (k.here (by omega)) (h.none q x k.hi)
  · exact x
  · have h0 := k.lo
    exact absurd (h.here (by omega)) (k.none r x h.hi)

theorem last_code (s : ByteArray) (c : Int) (hs : s.size ≤ 140737488361232) : ∀ (d : Nat), d ≤ s.size →
    ∃ r, Ev (fun k => bytealg_LastIndexByteString.l0 k s c ((d : Int) - 1)) r ∧ IsLast s c ((d : Int) - 1) r := by
  intro d
  induction d with
  | zero =>
    intro hd
    refine ⟨-1, Ev.step (f := fun _ => some (-1)) (fun k => ?_) (Ev.now _), ⟨by omega, by omega, fun j h1 h2 => by omega, fun h => by omega⟩⟩
    simp only [bytealg_LastIndexByteString.l0]; rw [if_neg (by omega)]
  | succ d ih =>
    intro hd
    have e1 : ((d + 1 : Nat) : Int) - 1 = (d : Int) := by omega
    rw [e1]
    by_cases hb : bt s d = c
    · refine ⟨d, Ev.step (f := fun _ => some (d : Int)) (fun k => ?_) (Ev.now _), ⟨by omega, by omega, fun j h1 h2 => by omega, fun _ => hb⟩⟩
      simp only [bytealg_LastIndexByteString.l0]; rw [if_pos (by omega), if_pos (by omega), if_pos (by omega), if_pos hb]
    · obtain ⟨r, hr, h⟩ := ih (by omega)
      refine ⟨r, Ev.step (fun k => ?_) hr, ⟨h.lo, by have := h.hi; omega, fun j h1 h2 => ?_, h.here⟩⟩
      · simp only [bytealg_LastIndexByteString.l0]; rw [if_pos (by omega), if_pos (by omega), if_pos (by omega), if_neg hb, wrap_id _ (by omega)]
      · by_cases e : j = d
        · rw [e]; exact hb
        · exact h.none j h1 (by omega)

theorem bind_id {α : Type} (x : Option α) : (x.bind fun t => some t) = x := by cases x <;> rfl

theorem dir_at (s : ByteArray) (hs : s.size ≤ 140737488361232) (r : Int) (hl : IsLast s 47 ((s.size : Int) - 1) r) :
    Ev (fun k => impl_Dir.f k s) (if 1 < r + 1 then s.extract 0 r.toNat else s.extract 0 (r + 1).toNat) := by
  obtain ⟨r', hr', hl'⟩ := last_code s 47 hs s.size (by omega)
  obtain rfl := hl.uniq hl'
  have lo := hl.lo
  have hi := hl.hi
  have hz : (s.extract 0 (r + 1).toNat).size = (r + 1).toNat := by simp; omega
  refine Ev.congr (f := fun k => paths_Dir.f k s) (fun k => by unfold impl_Dir.f; exact bind_id _) ?_
  have hp : Ev (fun k => path_Split.f k s) (s.extract 0 (r + 1).toNat, s.extract (r + 1).toNat s.size) := by
    refine Ev.congr (f := fun k => (bytealg_LastIndexByteString.l0 k s 47 ((s.size : Int) - 1)).bind _) (fun k => by
      unfold path_Split.f bytealg_LastIndexByteString.f; rw [wrap_id ((s.size : Int) - 1) (by omega)]) ?_
    refine Ev.bind (f := fun _ t => _) hr' ?_
    simp only [wrap_id (r + 1) (by omega)]
    rw [if_pos (by omega), if_pos (by omega)]
    exact Ev.now _
  refine Ev.congr (f := fun k => (path_Split.f k s).bind _) (fun k => by unfold paths_Dir.f; rfl) ?_
  refine Ev.bind (f := fun _ t => _) hp ?_
  simp only [hz]
  by_cases h1 : 1 < r + 1
  · have hb : bt (s.extract 0 (r + 1).toNat) r = 47 := by
      rw [bt_extract _ _ _ _ (by omega) (by omega) (by omega)]
      rw [show ((0 : Nat) : Int) + r = r by omega]
      exact hl.here (by omega)
    rw [if_pos h1, wrap_id _ (by omega), show (((r + 1).toNat : Int) - 1) = r by omega]
    rw [if_pos (by omega), if_pos (by omega), if_pos (by omega), if_pos hb, if_pos (by omega)]
    have : (s.extract 0 (r + 1).toNat).extract 0 r.toNat = s.extract 0 r.toNat := by
      apply bytes_ext
      rw [data_ext, data_ext, data_ext]
      simp only [List.drop_zero, List.take_take]
      rw [Nat.min_eq_left (by omega)]
    rw [this]
    exact Ev.now _
  · rw [if_neg h1, if_neg (by omega)]
    exact Ev.now _

end Go.Proofs.Ytelijbnnhgmklaa.Dir0FnDirJoined
