/- The laws of pages in plain words: another shortcode within an inline one. No program. -/
import Derived.Test.YtkehggbmpdacpabGreatDoorPl4
set_option maxRecDepth 100000
set_option linter.unusedVariables false
set_option linter.unusedSimpArgs false
set_option linter.unusedSectionVars false
namespace Go.Proofs.YtkehggbmpdacpabGreatDoor.Lex0
open Go.Proofs.YtkehggbmpdacpabGreatDoor.Dec0 Go.Proofs.YtkehggbmpdacpabGreatDoor.Txt0
theorem sp_head {b : T} {c : UInt8} {r : T} (h : b = 32 :: c :: r) (hc : isSp c.toNat = false) (h47 : c ≠ 47) (E : Env) (name : ByteArray) : inlOk E b name = false := by
  subst h
  unfold inlOk
  have : spN (32 :: c :: r) = 1 := by
    show (if isSp ((32 : UInt8).toNat) then spN (c :: r) + 1 else 0) = 1
    rw [if_pos (by decide)]
    show (if isSp c.toNat then spN r + 1 else 0) + 1 = 1
    rw [hc]; rfl
  rw [this]
  show ((some c == some 47) && _) = false
  have : (some c == some (47 : UInt8)) = false := by simpa using h47
  rw [this]; rfl
theorem law_inlineOther {E : Env} (hal : E.al (-1) = false) (hE : EA E) (hT : TrA E) (dv md : Bool) {w o u R : T} (hw : NameT w) (ho : NameT o) (hu : ProseT u) {s : T} (hs : s = lf md ++ 32 :: ((w ++ dotInl) ++ 32 :: (rd md ++ (u ++ (lf md ++ 32 :: (o ++ R)))))) :
    ∃ t ∈ (parse E s false dv).map (toldI E s), t.ty = 0 := by
  have hne : w ++ dotInl ≠ [] := by simp [dotInl]
  have key : ∃ B c', c'.inl = true ∧ c'.org = false ∧ Go E s dv .main b0 s c0 .main B (u ++ (lf md ++ 32 :: (o ++ R))) c' := by
    have g := Go.trans (g_open0 (E := E) (s := s) (dv := dv) (b := b0) (c := c0) (r := 32 :: ((w ++ dotInl) ++ 32 :: (rd md ++ (u ++ (lf md ++ 32 :: (o ++ R)))))) hT md rfl (no_cm (by decide))) (Go.trans (g_sp [32] (by intro c hc; revert c; decide)) (Go.trans (g_nameI hE hT hw rfl rfl (.inl rfl)) (g_close hT (md := md) rfl)))
    rw [← hs] at g
    exact ⟨_, _, rfl, rfl, g⟩
  obtain ⟨B, c, hi, hog, hg⟩ := key
  obtain ⟨x, h1, hx⟩ := hg lx0 (sim0 E s)
  obtain ⟨o1, o', rfl⟩ : ∃ a o', o = a :: o' := by
    cases o with
    | nil => exact absurd rfl ho.ne
    | cons a o' => exact ⟨a, o', rfl⟩
  have hc0 := isW_no (ho.h0 o1 rfl)
  have hbad : inlOk E (32 :: o1 :: (o' ++ R)) x.name = false := sp_head rfl hc0.2.2.1 (fun e => hc0.2.2.2.2.1 (by rw [e]; rfl)) E _
  have hxi : x.inl = true := by rw [← hi, ← hx.c]; rfl
  have hf : found s dv x = some u.length := by
    obtain ⟨d, hd⟩ := lf_two md
    rw [hd] at hx
    exact found_of_sim hx (fun c hc => (hu.q c hc).1) (fun _ _ d hd => by rw [hog]; exact (hu.q d hd).2)
  have hd2 : s.drop (x.pos + u.length) = lf md ++ 32 :: o1 :: (o' ++ R) := drop_more hx.drop
  generalize hX : ({ x with pos := x.pos + u.length, start := if x.start < x.pos + u.length then x.pos + u.length else x.start, items := x.items ++ opn s x.start (x.pos + u.length) } : Lx) = X
  have e3 : step E s dv .main x = ({ errI X with pos := s.length }, some .done) := by
    show main E s dv x = _
    rw [main_found hf, hX]
    unfold piece
    dsimp only
    have e1 : (lmd.isPrefixOf (lf md ++ 32 :: o1 :: (o' ++ R)) || lno.isPrefixOf (lf md ++ 32 :: o1 :: (o' ++ R))) = true := by cases md <;> rfl
    have e2 : (lf md ++ 32 :: o1 :: (o' ++ R)).drop 3 = 32 :: o1 :: (o' ++ R) := by cases md <;> rfl
    have e4 : X.pos = x.pos + u.length := by rw [← hX]
    have e5 : X.name = x.name := by rw [← hX]
    have e6 : X.inl = true := by rw [← hX]; exact hxi
    rw [e4, hd2, e1, if_pos rfl, e2, e5, hbad, e6]
    rfl
  have hst : ∃ y, step E s dv .main x = (y, some .done) ∧ ∃ i ∈ y.items, i.ty = 0 := ⟨_, e3, _, List.mem_append_right _ (List.mem_cons_self ..), rfl⟩
  obtain ⟨y, h2, i, hi1, hi2⟩ := hst
  have h3 : Runs E s dv .done y (done s y).1.items := .stop rfl
  have hp : parse E s false dv = (done s y).1.items := parse_of (front := false) (h1.runs (.go h2 h3))
  refine ⟨toldI E s i, List.mem_map.2 ⟨i, ?_, rfl⟩, hi2⟩
  rw [hp]
  unfold done emit
  dsimp only
  refine List.mem_append_left _ ?_
  split
  · unfold emitT; exact List.mem_append_left _ hi1
  · exact hi1
end Go.Proofs.YtkehggbmpdacpabGreatDoor.Lex0
