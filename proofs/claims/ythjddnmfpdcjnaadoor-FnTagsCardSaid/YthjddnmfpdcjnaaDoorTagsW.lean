/- The walk of impl.Tags: what it tells, step by step; for texts whose lower case and whose comparison are told by functions given. -/
import Derived.Test.YthjddnmfpdcjnaaDoorSkipW
set_option linter.unusedVariables false
namespace Go.Proofs.YthjddnmfpdcjnaaDoor.NextW
open Go.Rx hiding bt
open Go.RowKit Go.Proofs.YthjddnmfpdcjnaaDoorW.PrintWords Go.Proofs.YthjddnmfpdcjnaaDoor.Lib0 Go.Proofs.YthjddnmfpdcjnaaDoor.Tag0 Go.Proofs.YthjddnmfpdcjnaaDoor.TagC Go.Proofs.YthjddnmfpdcjnaaDoor.PLib6

structure Step where
  act : Int
  limit : Int
  name : ByteArray
def Step.cells (x : Step) : List Value := [.int .i64 x.act, .int .i64 x.limit, .string x.name]
structure Told where
  ty : Int
  name : ByteArray
  self : Bool
  start : Int
  ok : Bool
  pos : Nat
def Told.cells (x : Told) : List Value := [.int .i64 x.ty, .string x.name, .bool x.self, .int .i64 x.start, .bool x.ok, .int .i64 (x.pos : Nat)]
/-- One step of a script. -/
def step1 (lower : ByteArray → Option ByteArray) (fold : ByteArray → ByteArray → Option Bool) (s : ByteArray) (p : Nat) (x : Step) : Option Told :=
  if x.act = 0 then (if (p : Int) ≤ x.limit ∧ x.limit ≤ (s.size : Int) then (next lower s x.limit.toNat p).map fun t => ⟨t.ty, t.name, t.self, t.start, t.ok, t.pos⟩ else none)
  else if x.act = 1 then (if (p : Int) ≤ x.limit ∧ x.limit ≤ (s.size : Int) then (skipRaw fold s x.limit.toNat x.name p).map fun q => ⟨0, ⟨#[]⟩, false, 0, false, q⟩ else none)
  else some ⟨0, ⟨#[]⟩, false, 0, false, p⟩
def tags (lower : ByteArray → Option ByteArray) (fold : ByteArray → ByteArray → Option Bool) (s : ByteArray) : Nat → List Step → Option (List Told)
  | _, [] => some []
  | p, x :: r => match step1 lower fold s p x with
    | some t => (tags lower fold s t.pos r).map (t :: ·)
    | none => none
theorem tags_at {lower : ByteArray → Option ByteArray} {fold : ByteArray → ByteArray → Option Bool} {s : ByteArray} : ∀ {l : List Step} {p : Nat} {r : List Told}, tags lower fold s p l = some r → r.length = l.length := by
  intro l
  induction l with
  | nil => intro p r h; simp [tags] at h; simp [← h]
  | cons x l ih =>
    intro p r h
    simp only [tags] at h
    split at h
    · rename_i t ht
      cases hq : tags lower fold s t.pos l with
      | none => simp [hq] at h
      | some r' => simp [hq] at h; subst h; simp [ih hq]
    · cases h

theorem bo28 : bodyB Tryd.prog 28 = true := by kernel_rfl
theorem bo29 : bodyB Tryd.prog 29 = true := by kernel_rfl
theorem bo30 : bodyB Tryd.prog 30 = true := by kernel_rfl
theorem bo31 : bodyB Tryd.prog 31 = true := by kernel_rfl
theorem fb27_0 : fieldB Tryd.prog 27 0 = some 0 := by kernel_rfl
theorem fb27_1 : fieldB Tryd.prog 27 1 = some 1 := by kernel_rfl
theorem fb27_2 : fieldB Tryd.prog 27 2 = some 2 := by kernel_rfl
theorem fb32_0 : fieldB Tryd.prog 32 0 = some 0 := by kernel_rfl
theorem fb32_1 : fieldB Tryd.prog 32 1 = some 4 := by kernel_rfl
theorem fb32_2 : fieldB Tryd.prog 32 2 = some 5 := by kernel_rfl
theorem ag27 : aggB Tryd.prog 27 3 = true := by kernel_rfl
theorem ag32 : aggB Tryd.prog 32 6 = true := by kernel_rfl
theorem sz27 : szB Tryd.prog 27 3 = true := by kernel_rfl
theorem sz30 : szB Tryd.prog 30 4 = true := by kernel_rfl
theorem si27 : (Tryd.prog.info? 27).map (·.size) = some 3 := by kernel_rfl
theorem si49 : (Tryd.prog.info? 49).map (·.size) = some 2 := by kernel_rfl
theorem und28 : Tryd.prog.underlying 28 = some (.slice 27) := by kernel_rfl
theorem gr24 : growB Tryd.prog 24 32 6 56 = true := by kernel_rfl
theorem bz49 : (Tryd.prog.info? 49).bind (·.zero) = some (.agg #[.string ⟨#[]⟩, .int .i64 0]) := by kernel_rfl
theorem bz27 : (Tryd.prog.info? 27).bind (·.zero) = some (.agg #[.int .i64 0, .int .i64 0, .string ⟨#[]⟩]) := by kernel_rfl
theorem bz32 : (Tryd.prog.info? 32).bind (·.zero) = some (.agg #[.int .i64 0, .string ⟨#[]⟩, .bool false, .int .i64 0, .bool false, .int .i64 0]) := by kernel_rfl
theorem bu30 (a : Int) (b : ByteArray) (c : Bool) (d : Int) : Tryd.prog.built 30 [(0, .int .i64 a), (1, .string b), (2, .bool c), (3, .int .i64 d)] = some [.int .i64 a, .string b, .bool c, .int .i64 d].toArray := by kernel_rfl

theorem nextC {lower : ByteArray → Option ByteArray} {s : ByteArray} {lim p : Nat} {t : Tok} (X : Cx) (m : Mem) (i g : Nat) (hm : m[i]? = some (g, [.string s, .int .i64 p], 49)) (hg : X.w0.heap.size ≤ g) (hXS : ∀ k, ¬ X.S k)
    (hlow : ∀ x r, lower x = some r → ∀ w', Evo X.S X.w0 w' → Calls Tryd.prog 41 #[.string x] w' fun e w'' => e = .returned (.string r) ∧ Below w'.heap.size w' w'')
    (h1 : p ≤ lim) (h2 : lim ≤ s.size) (h3 : s.size ≤ 4294967280) (hn : next lower s lim p = some t) :
    ∀ w, Cl X m w → Calls Tryd.prog 29 #[.pointer (some ⟨g, 0, none⟩), .int .i64 lim] w fun e w' => e = .returned (.tuple [.agg [.int .i64 t.ty, .string t.name, .bool t.self, .int .i64 t.start].toArray, .bool t.ok].toArray) ∧ Cl X (setM m i [.string s, .int .i64 (t.pos : Nat)]) w' := by
  intro w hw
  have hs := hw.2.size
  refine (next_calls lower s lim p g X.w0 w t ⟨hw.1.at hm, hg⟩ (hw.2.below (fun k _ => hXS k) (Nat.le_refl _)) (fun x r hx w' hw' => hlow x r hx w' ?_) h1 h2 h3 hn).mono ?_
  · refine ⟨hw'.os.trans hw.2.os, hw'.tape.trans hw.2.tape, hw'.output.trans hw.2.output, Nat.le_trans hw.2.size hw'.size, fun k hk hs' => ?_⟩
    rw [hw'.block k (by omega) (by omega)]
    exact hw.2.block k hk hs'
  · rintro e w' ⟨rfl, hI, hB, hK⟩
    exact ⟨rfl, hw.upd hm (.inr hg) ⟨hB.os.trans hw.2.os.symm, hB.tape.trans hw.2.tape.symm, hB.output.trans hw.2.output.symm⟩ hK.1 (fun k hk hne => hK.2 k hk hne (by simp)) hI.1⟩
theorem skipRawC {fold : ByteArray → ByteArray → Option Bool} {s name : ByteArray} {lim p r : Nat} (X : Cx) (m : Mem) (i g : Nat) (hm : m[i]? = some (g, [.string s, .int .i64 p], 49)) (hg : X.w0.heap.size ≤ g) (hXS : ∀ k, ¬ X.S k)
    (hfold : ∀ x y b, fold x y = some b → ∀ w', Calls Tryd.prog 43 #[.string x, .string y] w' fun e w'' => e = .returned (.bool b) ∧ w'' = w')
    (h1 : p ≤ lim) (h2 : lim ≤ s.size) (h3 : s.size ≤ 4294967280) (hn : skipRaw fold s lim name p = some r) :
    ∀ w, Cl X m w → Calls Tryd.prog 30 #[.pointer (some ⟨g, 0, none⟩), .int .i64 lim, .string name] w fun e w' => e = .returned (.tuple #[]) ∧ Cl X (setM m i [.string s, .int .i64 (r : Nat)]) w' := by
  intro w hw
  refine (skipRaw_calls fold s lim p name g X.w0 w r ⟨hw.1.at hm, hg⟩ (hw.2.below (fun k _ => hXS k) (Nat.le_refl _)) hfold h1 h2 h3 hn).mono ?_
  rintro e w' ⟨rfl, hI, hB, hK⟩
  exact ⟨rfl, hw.upd hm (.inr hg) ⟨hB.os.trans hw.2.os.symm, hB.tape.trans hw.2.tape.symm, hB.output.trans hw.2.output.symm⟩ hK.1 (fun k hk hne => hK.2 k hk hne (by simp)) hI.1⟩
theorem posC {s : ByteArray} {p : Int} (X : Cx) (m : Mem) (i g : Nat) (hm : m[i]? = some (g, [.string s, .int .i64 p], 49)) (hg : X.w0.heap.size ≤ g) (hXS : ∀ k, ¬ X.S k) :
    ∀ w, Cl X m w → Calls Tryd.prog 31 #[.pointer (some ⟨g, 0, none⟩)] w fun e w' => e = .returned (.int .i64 p) ∧ Cl X (setM m i [.string s, .int .i64 p]) w' := by
  intro w hw
  refine (hhtml_Scanner_Pos.calls g s p p s p X.w0 w ⟨hw.1.at hm, hg⟩ (hw.2.below (fun k _ => hXS k) (Nat.le_refl _)) rfl).mono ?_
  rintro e w' ⟨rfl, hI, hB, hK⟩
  exact ⟨rfl, hw.upd hm (.inr hg) ⟨hB.os.trans hw.2.os.symm, hB.tape.trans hw.2.tape.symm, hB.output.trans hw.2.output.symm⟩ hK.1 (fun k hk hne => hK.2 k hk hne (by simp)) hI.1⟩
theorem newC (X : Cx) (m : Mem) (s : ByteArray) (p : Int) : ∀ w, Cl X m w → Calls Tryd.prog 28 #[.string s, .int .i64 p] w fun e w' => e = .returned (.agg [.string s, .int .i64 p].toArray) ∧ Cl X m w' :=
  quietC fun w _ => (hhtml_NewScanner.calls s p s p w rfl).mono fun e w' ⟨he, hd⟩ => ⟨he, hd⟩
end Go.Proofs.YthjddnmfpdcjnaaDoor.NextW
