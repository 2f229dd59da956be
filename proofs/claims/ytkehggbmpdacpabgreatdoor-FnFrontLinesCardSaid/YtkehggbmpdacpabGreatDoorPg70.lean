/- Pages: rows of items as the laws keep them; the book behind a page. -/
import Derived.Test.YtkehggbmpdacpabGreatDoorPg69
import Derived.Test.YtkehggbmpdacpabGreatDoorPg67
set_option maxRecDepth 100000
set_option linter.unusedVariables false
set_option linter.unusedSimpArgs false
set_option linter.unusedSectionVars false
namespace Go.Proofs.YtkehggbmpdacpabGreatDoor.Pg
open Go.Rx hiding bt
open Go.RowKit Go.Proofs.YtkehggbmpdacpabGreatDoor.Dec0 Go.Proofs.YtkehggbmpdacpabGreatDoor.Lex0
theorem row_tis {r : Row} {l : List Ti} {B : Nat} (hr : r.ok B 5 l.length (l.flatMap tiC)) : ∃ A c, r.val l.length = .slice A l.length c ∧ l.length ≤ c ∧ ∀ w, Has (r.mem (l.flatMap tiC) 59) w → TisAt w (.slice A l.length c) l := by
  have h := fun w (hw : Has (r.mem (l.flatMap tiC) 59) w) => tis_of hw hr
  cases r with
  | nil => exact ⟨none, 0, by rw [hr.1]; rfl, by rw [hr.1]; exact Nat.le_refl _, fun w hw => by have := h w hw; rw [show Row.nil.val l.length = .slice none l.length 0 by rw [hr.1]; rfl] at this; exact this⟩
  | «at» g cap rr => exact ⟨_, cap, rfl, hr.2.2.1, h⟩
theorem wholeE {w : World} {v : Value} {l : List Ti} {b : Bool} (h : TisAt w v l) (hl : l.length ≤ 1000000000) (hb : wholeT l = b) : Calls Tryz.prog 29 #[v] w fun e w' => e = .returned (.bool b) ∧ Below w.heap.size w w' := hb ▸ whole_calls h hl
theorem told_pos {s : T} {fr dv : Bool} : ∀ t ∈ told s fr dv, t.pos ≤ s.length := by
  intro t ht
  obtain ⟨it, hi, rfl⟩ := List.mem_map.1 ht
  have h := (parse_in s fr dv).1 it hi
  show posI it ≤ _
  unfold posI
  cases hs : it.segs with
  | nil => have := h.lo hs; dsimp only; omega
  | cons p q => have h2 := SegCh.mem h.ch p (by rw [hs]; exact List.mem_cons_self ..); dsimp only; omega
section
variable {X : Cx} {g : Nat} (hg : X.may g) {B : Book} {r : Row} {E : Mem} (hr : BkOk X r B.l)
include hg hr
theorem behindB_calls {l : List Ti} {v : Value} (hv : ∀ w, Has E w → TisAt w v l) (hln : l.length ≤ 1000000000) (hp : ∀ x ∈ l, x.pos ≤ 1099511627776) (hn : bsz B ≤ 1000000000) {u : ByteArray} (hus : u.size ≤ 1099511627776) :
    ∀ w, Cl X (bkS g B r E) w → Calls Tryz.prog 30 #[.pointer (some ⟨g, 0, none⟩), .string u, v] w fun e w' => ∃ r' : Row, e = .returned (.tuple #[]) ∧ Cl X (bkS g (B.behind u.data.toList l) r' E) w' ∧ BkOk X r' (B.behind u.data.toList l).l := fun w hw => by
  unfold bsz at hn
  have h := behind_calls (E := E) (s := ba B.s) hg hr (by omega) (fun X' w h => hv w (h.1.sub ((List.sublist_append_right _ _).trans (List.sublist_cons_self _ _)))) hln hp (by rw [ba_size]; omega) (u := u) (by rw [ba_size]; omega) w hw
  have e : ba B.s ++ u = ba (B.behind u.data.toList l).s := by show _ = ba (B.s ++ u.data.toList); rw [ba_app]; rfl
  rw [e, ba_size] at h
  exact h
end
end Go.Proofs.YtkehggbmpdacpabGreatDoor.Pg
