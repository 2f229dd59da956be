/- A tag built of a name and attributes: its text, and what a scanner tells of it. No walk. -/
import Derived.Test.YthjddnmfpdcjnaaDoorLawM
set_option linter.unusedVariables false
namespace Go.Proofs.YthjddnmfpdcjnaaDoor.LawN
open Go.Rx hiding bt
open Go.RowKit Go.Proofs.YthjddnmfpdcjnaaDoorW.PrintWords Go.Proofs.YthjddnmfpdcjnaaDoor.Lib0 Go.Proofs.YthjddnmfpdcjnaaDoor.Tag0 Go.Proofs.YthjddnmfpdcjnaaDoor.NextW Go.Proofs.YthjddnmfpdcjnaaDoor.Has0L6 Go.Proofs.YthjddnmfpdcjnaaDoor.LawA Go.Proofs.YthjddnmfpdcjnaaDoor.LawB Go.Proofs.YthjddnmfpdcjnaaDoor.TxtA Go.Proofs.YthjddnmfpdcjnaaDoor.LawC Go.Proofs.YthjddnmfpdcjnaaDoor.TagV Go.Proofs.YthjddnmfpdcjnaaDoor.LawD Go.Proofs.YthjddnmfpdcjnaaDoor.LawE Go.Proofs.YthjddnmfpdcjnaaDoor.LawM

def pcE (a : ByteArray) : ByteArray := ⟨#[32, 97, 61, 34]⟩ ++ a ++ ⟨#[34]⟩
def pcO (a : ByteArray) : ByteArray := ⟨#[32, 98, 32, 61, 32, 39]⟩ ++ a ++ ⟨#[39]⟩
def pc (j : Nat) (a : ByteArray) : ByteArray := if j % 2 = 0 then pcE a else pcO a
/-- The text behind the first j attributes. -/
def bx (u : ByteArray) (l : List ByteArray) : Nat → ByteArray
  | 0 => u
  | j + 1 => bx u l j ++ pc j (l.getD j ByteArray.empty)
theorem pc_size (j : Nat) (a : ByteArray) : (pc j a).size = a.size + (if j % 2 = 0 then 5 else 7) := by
  have z1 : (⟨#[32, 97, 61, 34]⟩ : ByteArray).size = 4 := rfl
  have z2 : (⟨#[34]⟩ : ByteArray).size = 1 := rfl
  have z3 : (⟨#[32, 98, 32, 61, 32, 39]⟩ : ByteArray).size = 6 := rfl
  have z4 : (⟨#[39]⟩ : ByteArray).size = 1 := rfl
  unfold pc
  split
  · simp only [pcE, ByteArray.size_append, z1, z2]; omega
  · simp only [pcO, ByteArray.size_append, z3, z4]; omega
theorem bx_at {s u : ByteArray} {l : List ByteArray} {n : Nat} (h : At s (bx u l n) 0) : ∀ k j, j + k = n → At s (bx u l j) 0 := by
  intro k
  induction k with
  | zero => intro j hj; obtain rfl : j = n := (by omega); exact h
  | succ k ih => intro j hj; exact (ih (j + 1) (by omega)).left

theorem app_nil (a : ByteArray) : a ++ (⟨#[]⟩ : ByteArray) = a := by
  refine bytes_ext ?_
  rw [data_app]; simp
/-! ### one attribute -/
theorem a_step {s : ByteArray} {lim p : Nat} {st self : Bool} {c : Int} (h : p < lim) (hb : bt s (p : Nat) = c) (hc : c ≠ 62 ∧ c ≠ 47 ∧ c ≠ 61) : attrs s lim st p self = attrs s lim st (p + 1) self := by
  rw [attrs, dif_pos h, hb, if_neg hc.1, if_neg hc.2.1, if_neg hc.2.2]
theorem blanks_no' {s : ByteArray} {lim p : Nat} (h : p < lim) (hb : spc (bt s (p : Nat)) = false) : blanksE s lim p = p := by
  rw [blanksE, if_pos h, hb, if_neg (by simp)]
theorem blanks_yes {s : ByteArray} {lim p : Nat} (h : p < lim) (hb : spc (bt s (p : Nat)) = true) : blanksE s lim p = blanksE s lim (p + 1) := by
  rw [blanksE, if_pos h, if_pos hb]
theorem value_at {s a : ByteArray} {lim p : Nat} {c : UInt8} (hc : (c.toNat : Int) = 34 ∨ (c.toNat : Int) = 39) (h0 : bt s (p : Nat) = (c.toNat : Int)) (hA : At s a (p + 1)) (hl : p + 1 + a.size < lim) (hn : ∀ j, ¬ HasAt a ⟨#[c]⟩ j) (h1 : bt s ((p + 1 + a.size : Nat) : Int) = (c.toNat : Int)) : valueE s lim p = p + a.size + 2 := by
  have hf := find_in (s := s) (lim := lim) hA (by omega) hn (fun _ => h1)
  unfold valueE
  rw [if_pos (by omega), h0, if_pos hc, hf, if_neg (by omega)]
  omega
theorem attr_even {s a : ByteArray} {lim p : Nat} {st self : Bool} (hA : At s (pcE a) p) (hl : p + a.size + 5 < lim) (hn : ∀ j, ¬ HasAt a ⟨#[34]⟩ j) : attrs s lim st p self = attrs s lim st (p + a.size + 5) self := by
  have z1 : (⟨#[32, 97, 61, 34]⟩ : ByteArray).size = 4 := rfl
  have hA' : At s (⟨#[32, 97, 61, 34]⟩ ++ a ++ ⟨#[34]⟩) p := hA
  have O := hA'.left.left
  have M := hA'.left.right
  have G := hA'.right
  rw [ByteArray.size_append, z1] at G
  rw [z1] at M
  have b0 : bt s ((p : Nat) : Int) = 32 := at_byte O 0 (by decide) rfl
  have b1 : bt s ((p + 1 : Nat) : Int) = 97 := at_byte O 1 (by decide) rfl
  have b2 : bt s ((p + 2 : Nat) : Int) = 61 := at_byte O 2 (by decide) rfl
  have b3 : bt s ((p + 3 : Nat) : Int) = 34 := at_byte O 3 (by decide) rfl
  have b4 : bt s ((p + 3 + 1 + a.size : Nat) : Int) = 34 := by
    have := at_byte G 0 (by decide) (c := 34) rfl
    rw [← this]; congr 2; omega
  have hM : At s a (p + 3 + 1) := M
  have hv := value_at (s := s) (lim := lim) (p := p + 3) (c := 34) (.inl rfl) b3 hM (by omega) hn b4
  rw [a_step (by omega) b0 (by decide), a_step (by omega) b1 (by decide), attrs, dif_pos (by omega), show p + 1 + 1 = p + 2 by omega, b2, if_neg (by decide), if_neg (by decide), if_pos rfl, show p + 2 + 1 = p + 3 by omega,
    blanks_no' (by omega) (by rw [b3]; rfl), hv, show p + 3 + a.size + 2 = p + a.size + 5 by omega]
theorem attr_odd {s a : ByteArray} {lim p : Nat} {st self : Bool} (hA : At s (pcO a) p) (hl : p + a.size + 7 < lim) (hn : ∀ j, ¬ HasAt a ⟨#[39]⟩ j) : attrs s lim st p self = attrs s lim st (p + a.size + 7) self := by
  have z1 : (⟨#[32, 98, 32, 61, 32, 39]⟩ : ByteArray).size = 6 := rfl
  have hA' : At s (⟨#[32, 98, 32, 61, 32, 39]⟩ ++ a ++ ⟨#[39]⟩) p := hA
  have O := hA'.left.left
  have M := hA'.left.right
  have G := hA'.right
  rw [ByteArray.size_append, z1] at G
  rw [z1] at M
  have b0 : bt s ((p : Nat) : Int) = 32 := at_byte O 0 (by decide) rfl
  have b1 : bt s ((p + 1 : Nat) : Int) = 98 := at_byte O 1 (by decide) rfl
  have b2 : bt s ((p + 2 : Nat) : Int) = 32 := at_byte O 2 (by decide) rfl
  have b3 : bt s ((p + 3 : Nat) : Int) = 61 := at_byte O 3 (by decide) rfl
  have b4 : bt s ((p + 4 : Nat) : Int) = 32 := at_byte O 4 (by decide) rfl
  have b5 : bt s ((p + 5 : Nat) : Int) = 39 := at_byte O 5 (by decide) rfl
  have b6 : bt s ((p + 5 + 1 + a.size : Nat) : Int) = 39 := by
    have := at_byte G 0 (by decide) (c := 39) rfl
    rw [← this]; congr 2; omega
  have hM : At s a (p + 5 + 1) := M
  have hv := value_at (s := s) (lim := lim) (p := p + 5) (c := 39) (.inr rfl) b5 hM (by omega) hn b6
  rw [a_step (by omega) b0 (by decide), a_step (by omega) b1 (by decide), show p + 1 + 1 = p + 2 by omega, a_step (by omega) b2 (by decide), attrs, dif_pos (by omega), show p + 2 + 1 = p + 3 by omega, b3, if_neg (by decide), if_neg (by decide), if_pos rfl, show p + 3 + 1 = p + 4 by omega,
    blanks_yes (by omega) (by rw [b4]; rfl), show p + 4 + 1 = p + 5 by omega, blanks_no' (by omega) (by rw [b5]; rfl), hv, show p + 5 + a.size + 2 = p + a.size + 7 by omega]
theorem attrs_bx {s u : ByteArray} {l : List ByteArray} {lim : Nat} {st self : Bool} (h : At s (bx u l l.length) 0) (hl : (bx u l l.length).size < lim) (hn : ∀ a ∈ l, hasB a ⟨#[39]⟩ = false ∧ hasB a ⟨#[34]⟩ = false) : ∀ k j, j + k = l.length → attrs s lim st (bx u l j).size self = attrs s lim st (bx u l l.length).size self := by
  intro k
  induction k with
  | zero => intro j hj; obtain rfl : j = l.length := (by omega); rfl
  | succ k ih =>
    intro j hj
    have hlt : j < l.length := by omega
    have hle : (bx u l (j + 1)).size ≤ (bx u l l.length).size := by
      have : ∀ q i, i + q = l.length → (bx u l i).size ≤ (bx u l l.length).size := by
        intro q
        induction q with
        | zero => intro i hi; obtain rfl : i = l.length := (by omega); exact Nat.le_refl _
        | succ q ihq => intro i hi; refine Nat.le_trans ?_ (ihq (i + 1) (by omega)); simp [bx, ByteArray.size_append]
      exact this k (j + 1) (by omega)
    have hA := bx_at h k (j + 1) (by omega)
    have hR := hA.right
    rw [Nat.zero_add] at hR
    have hsz : (bx u l (j + 1)).size = (bx u l j).size + (pc j (l.getD j ByteArray.empty)).size := by simp [bx, ByteArray.size_append]
    rw [pc_size] at hsz
    obtain ⟨n1, n2⟩ := hn (l.getD j ByteArray.empty) (by rw [Lib0.getD_in _ _ _ hlt]; exact List.getElem_mem hlt)
    rw [← ih (j + 1) (by omega), hsz]
    by_cases he : j % 2 = 0
    · rw [if_pos he] at hsz ⊢
      have hR' : At s (pcE (l.getD j ByteArray.empty)) (bx u l j).size := by have := hR; unfold pc at this; rwa [if_pos he] at this
      rw [attr_even hR' (by omega) (hasB_not n2), Nat.add_assoc]
    · rw [if_neg he] at hsz ⊢
      have hR' : At s (pcO (l.getD j ByteArray.empty)) (bx u l j).size := by have := hR; unfold pc at this; rwa [if_neg he] at this
      rw [attr_odd hR' (by omega) (hasB_not n1), Nat.add_assoc]

/-! ### the whole tag -/
def opn (cl : Bool) : ByteArray := if cl then ⟨#[60, 47]⟩ else ⟨#[60]⟩
def shut (se : Bool) : ByteArray := if se then ⟨#[32, 47]⟩ else ⟨#[]⟩
theorem opn_size (cl : Bool) : (opn cl).size = if cl then 2 else 1 := by cases cl <;> rfl
theorem shut_size (se : Bool) : (shut se).size = if se then 2 else 0 := by cases se <;> rfl
theorem toldB {T u s b0 nm bh : ByteArray} {l : List ByteArray} {cl se : Bool} (hu : u = b0 ++ opn cl ++ nm) (hs : s = bx u l l.length ++ shut se ++ ⟨#[62]⟩) (hT : T = s ++ bh) (hz : T.size ≤ 140737488355328) (h0 : 0 < nm.size) (hL : allL nm) (hb : hasB b0 ⟨#[60]⟩ = false) (hn : ∀ a ∈ l, hasB a ⟨#[39]⟩ = false ∧ hasB a ⟨#[34]⟩ = false) :
    tags strings_ToLower.f strings_EqualFold.f T 0 [⟨0, (s.size : Nat), ⟨#[]⟩⟩] = some [⟨if cl then 2 else 1, lowB nm, se && !cl, b0.size, true, s.size⟩] := by
  have z62 : (⟨#[62]⟩ : ByteArray).size = 1 := rfl
  have A : At T (s ++ bh) 0 := by rw [← hT]; exact At.self T
  have S := A.left
  have hsl := S.le
  have hszs : s.size = (bx u l l.length).size + (shut se).size + 1 := by rw [hs, ByteArray.size_append, ByteArray.size_append, z62]
  rw [hs] at S
  have G := S.right
  have H := S.left.right
  have B := S.left.left
  simp only [ByteArray.size_append, Nat.zero_add] at G H
  have U := bx_at B l.length 0 (by omega)
  change At T u 0 at U
  have hsu : (bx u l 0).size = u.size := rfl
  have hle0 : u.size ≤ (bx u l l.length).size := by
    have : ∀ i, u.size ≤ (bx u l i).size := by
      intro i
      induction i with
      | zero => exact Nat.le_refl _
      | succ i ih => simp only [bx, ByteArray.size_append]; omega
    exact this _
  have hab := attrs_bx (st := !cl) (self := false) (lim := s.size) B (by omega) hn l.length 0 (by omega)
  rw [hsu] at hab
  have hszu : u.size = b0.size + (opn cl).size + nm.size := by rw [hu, ByteArray.size_append, ByteArray.size_append]
  rw [hu] at U
  have N := U.right
  have O := U.left.right
  have B0 := U.left.left
  simp only [ByteArray.size_append, Nat.zero_add] at N O
  -- the end of the tag
  have hend : attrs T s.size (!cl) (bx u l l.length).size false = (s.size, se && !cl) := by
    have g0 : bt T (((bx u l l.length).size + (shut se).size : Nat) : Int) = 62 := at_byte G 0 (by decide) rfl
    cases se with
    | false =>
      rw [show (shut false).size = 0 from rfl, Nat.add_zero] at g0 hszs
      rw [attrs_gt (by omega) g0]
      simp; omega
    | true =>
      rw [show (shut true).size = 2 from rfl] at g0 hszs
      have h1 : bt T (((bx u l l.length).size : Nat) : Int) = 32 := at_byte H 0 (by decide) rfl
      have h2 : bt T (((bx u l l.length).size + 1 : Nat) : Int) = 47 := at_byte H 1 (by decide) rfl
      rw [a_step (by omega) h1 (by decide), attrs, dif_pos (by omega), h2, if_neg (by decide), if_pos rfl, show (bx u l l.length).size + 1 + 1 = (bx u l l.length).size + 2 by omega, g0, attrs_gt (by omega) g0]
      have : (bx u l l.length).size + 2 < s.size := by omega
      simp [this]; omega
  rw [← hab] at hend
  have hnx : nend (bt T ((u.size : Nat) : Int)) = true := by
    by_cases hl0 : l.length = 0
    · have e : bx u l l.length = u := by rw [hl0]; rfl
      rw [e] at G H
      cases se with
      | false =>
        have := at_byte G 0 (by decide) (c := 62) rfl
        rw [show (shut false).size = 0 from rfl] at this
        simp only [Nat.add_zero] at this
        rw [this]; rfl
      | true =>
        have := at_byte H 0 (by decide) (c := 32) rfl
        rw [Nat.add_zero] at this
        rw [this]; rfl
    · have hA := bx_at B (l.length - 1) 1 (by omega)
      have hR := hA.right
      rw [Nat.zero_add] at hR
      have hR' : At T (pcE (l.getD 0 ByteArray.empty)) u.size := hR
      have hR2 : At T (⟨#[32, 97, 61, 34]⟩ ++ l.getD 0 ByteArray.empty ++ ⟨#[34]⟩) u.size := hR'
      have := at_byte hR2.left.left 0 (by decide) (c := 32) rfl
      rw [Nat.add_zero] at this
      rw [this]; rfl
  have o0 : bt T ((b0.size : Nat) : Int) = 60 := by
    cases cl with
    | false => exact at_byte O 0 (by decide) rfl
    | true => exact at_byte O 0 (by decide) rfl
  have f0 : findB T s.size 60 0 = b0.size := by
    have := find_in (s := T) (lim := s.size) (c := 60) B0 (by omega) (hasB_not hb) (fun _ => by rw [Nat.zero_add]; exact o0)
    rwa [Nat.zero_add] at this
  have ne : nameE T s.size (b0.size + (opn cl).size) = u.size := by
    rw [nameE_at N (by omega) hL (by rw [← hszu]; exact hnx), hszu]
  have ex : T.extract (b0.size + (opn cl).size) u.size = nm := N.ext hszu
  have lb : ltr (bt T ((b0.size + (opn cl).size : Nat) : Int)) = true := by
    have := hL 0 h0
    rw [← N.eq 0 h0, Nat.add_zero] at this
    exact this
  refine tags_one (step_next (t := ⟨if cl then 2 else 1, lowB nm, se && !cl, b0.size, true, s.size⟩) ⟨#[]⟩ (Nat.zero_le _) (by omega) (next_at f0 (by rw [hszs]; omega) (Nat.zero_le _) ?_))
  cases cl with
  | false =>
    have lb' : ltr (bt T ((b0.size + 1 : Nat) : Int)) = true := lb
    have ne' : nameE T s.size (b0.size + 1) = u.size := ne
    have ex' : T.extract (b0.size + 1) u.size = nm := ex
    have hend' : attrs T s.size true u.size false = (s.size, se && !false) := hend
    obtain ⟨c1, c2⟩ := lt33 lb'
    unfold afterLt body
    rw [if_neg c1, if_neg c2, if_pos lb', ne', ex', lower_low hL (by omega)]
    simp only [Option.bind_some, Option.map_some, hend']
    rfl
  | true =>
    have lb' : ltr (bt T ((b0.size + 2 : Nat) : Int)) = true := lb
    have ne' : nameE T s.size (b0.size + 2) = u.size := ne
    have ex' : T.extract (b0.size + 2) u.size = nm := ex
    have hend' : attrs T s.size false u.size false = (s.size, se && !true) := hend
    have o1 : bt T ((b0.size + 1 : Nat) : Int) = 47 := at_byte O 1 (by decide) rfl
    unfold afterLt body
    rw [if_neg (by rw [o1]; decide), if_pos o1, if_neg (by rw [lb']; simp), ne', ex', lower_low hL (by omega)]
    simp only [Option.bind_some, Option.map_some, hend']
    rfl
end Go.Proofs.YthjddnmfpdcjnaaDoor.LawN
