/- Runes and bytes in plain words: what a text begins with as UTF-8; its runes; the bytes of runes. No program. -/
import Derived.Lib.DecodeN
import Derived.Laws.Cover4
set_option linter.unusedVariables false
set_option linter.unusedSimpArgs false
namespace Go.Proofs.YtflmkgkkjhphkaaDoor.Dec0
open Go Go.Lib
abbrev T := List UInt8
def gb (l : T) (i : Nat) : Nat := (l.getD i 0).toNat
def dec (l : T) : Nat × Nat := decodeN l.length (gb l 0) (gb l 1) (gb l 2) (gb l 3)
/-- The rune that a text begins with; -1 of none. -/
def rn (l : T) : Int := if l = [] then -1 else ((dec l).1 : Int)
def wd (l : T) : Nat := if l = [] then 0 else (dec l).2
theorem gb_lt (l : T) (i : Nat) : gb l i < 256 := UInt8.toNat_lt _
theorem gb_out {l : T} {i : Nat} (h : l.length ≤ i) : gb l i = 0 := by
  unfold gb
  rw [List.getD_eq_getElem?_getD, List.getElem?_eq_none h]
  rfl
theorem decodeN_ge (n b0 b1 b2 b3 : Nat) : 1 ≤ (decodeN n b0 b1 b2 b3).2 := by
  unfold decodeN
  repeat' split
  all_goals simp
theorem wd_pos {l : T} (h : l ≠ []) : 1 ≤ wd l := by
  unfold wd
  rw [if_neg h]
  exact decodeN_ge _ _ _ _ _
theorem dec_num (l : T) (n : Nat) (hn : 4 ≤ n) : dec l = decodeN n (gb l 0) (gb l 1) (gb l 2) (gb l 3) := by
  have h1 := fun h => gb_out (l := l) (i := 1) h
  have h2 := fun h => gb_out (l := l) (i := 2) h
  have h3 := fun h => gb_out (l := l) (i := 3) h
  have e1 : (1 < l.length ∧ gb l 1 / 64 = 2) ↔ (1 < n ∧ gb l 1 / 64 = 2) := by constructor <;> (rintro ⟨a, b⟩; refine ⟨?_, b⟩; first | omega | (rcases Nat.lt_or_ge 1 l.length with h | h; exact h; rw [h1 h] at b; simp at b))
  have e2 : (2 < l.length ∧ gb l 2 / 64 = 2) ↔ (2 < n ∧ gb l 2 / 64 = 2) := by constructor <;> (rintro ⟨a, b⟩; refine ⟨?_, b⟩; first | omega | (rcases Nat.lt_or_ge 2 l.length with h | h; exact h; rw [h2 h] at b; simp at b))
  have e3 : (3 < l.length ∧ gb l 3 / 64 = 2) ↔ (3 < n ∧ gb l 3 / 64 = 2) := by constructor <;> (rintro ⟨a, b⟩; refine ⟨?_, b⟩; first | omega | (rcases Nat.lt_or_ge 3 l.length with h | h; exact h; rw [h3 h] at b; simp at b))
  unfold dec decodeN
  simp only [e1, e2, e3]
/-- The first four bytes alone count. -/
theorem dec_congr {l k : T} (h : ∀ i, i < 4 → gb l i = gb k i) : dec l = dec k := by
  rw [dec_num l 4 (Nat.le_refl _), dec_num k 4 (Nat.le_refl _), h 0 (by omega), h 1 (by omega), h 2 (by omega), h 3 (by omega)]
theorem dec_ascii {l : T} (h : gb l 0 < 128) : dec l = (gb l 0, 1) := by
  unfold dec decodeN
  rw [if_pos h]
theorem rn_ascii {c : UInt8} {r : T} (h : c.toNat < 128) : rn (c :: r) = (c.toNat : Int) := by
  unfold rn
  rw [if_neg (by simp), dec_ascii (l := c :: r) h]
  rfl
theorem wd_ascii {c : UInt8} {r : T} (h : c.toNat < 128) : wd (c :: r) = 1 := by
  unfold wd
  rw [if_neg (by simp), dec_ascii (l := c :: r) h]
/-- Beyond ASCII: the rune is, too, and so is each of its bytes; it does not go beyond the text. -/
theorem dec_wide {l : T} (h : 128 ≤ gb l 0) : 128 ≤ (dec l).1 ∧ (dec l).2 ≤ l.length ∧ (∀ j, j < (dec l).2 → 128 ≤ gb l j) := by
  have hl : 0 < l.length := by
    rcases Nat.eq_zero_or_pos l.length with e | e
    · rw [gb_out (by omega)] at h; omega
    · exact e
  have one : ∀ j, j < 1 → 128 ≤ gb l j := fun j hj => by
    have : j = 0 := by omega
    rw [this]
    exact h
  unfold dec decodeN
  rw [if_neg (by omega)]
  repeat' split
  all_goals first
    | exact ⟨by decide, hl, one⟩
    | (rename_i h1 h2
       refine ⟨by dsimp only; omega, by dsimp only; omega, fun j hj => ?_⟩
       dsimp only at hj
       have : j = 0 ∨ j = 1 ∨ j = 2 ∨ j = 3 := by omega
       rcases this with rfl | rfl | rfl | rfl <;> omega)
    | (rename_i h1 h2 h3
       refine ⟨by dsimp only; omega, by dsimp only; omega, fun j hj => ?_⟩
       dsimp only at hj
       have : j = 0 ∨ j = 1 ∨ j = 2 ∨ j = 3 := by omega
       rcases this with rfl | rfl | rfl | rfl <;> omega)
theorem wd_le (l : T) : wd l ≤ l.length := by
  unfold wd
  by_cases h : l = []
  · rw [if_pos h]; omega
  · rw [if_neg h]
    have hl : 0 < l.length := List.length_pos_iff.2 h
    rcases Nat.lt_or_ge (gb l 0) 128 with h' | h'
    · rw [dec_ascii h']; omega
    · exact (dec_wide h').2.1
theorem rn_neg {l : T} : rn l = -1 ↔ l = [] := by
  unfold rn
  split
  · rename_i h; simp [h]
  · rename_i h; simp [h]
theorem rn_ge {l : T} (h : l ≠ []) : 0 ≤ rn l := by unfold rn; rw [if_neg h]; omega
theorem rn_cons (c : UInt8) (r : T) : (c.toNat < 128 ∧ rn (c :: r) = (c.toNat : Int) ∧ wd (c :: r) = 1) ∨ (128 ≤ c.toNat ∧ 128 ≤ rn (c :: r)) := by
  rcases Nat.lt_or_ge c.toNat 128 with h | h
  · exact .inl ⟨h, rn_ascii h, wd_ascii h⟩
  · refine .inr ⟨h, ?_⟩
    unfold rn
    rw [if_neg (by simp)]
    have := (dec_wide (l := c :: r) h).1
    omega
/-- A byte of ASCII is told by its rune. -/
theorem rn_eq {c : UInt8} {r : T} {k : Nat} (hk : k < 128) : rn (c :: r) = (k : Int) ↔ c.toNat = k := by
  rcases rn_cons c r with ⟨h1, h2, _⟩ | ⟨h1, h2⟩ <;> omega
theorem dec_max (l : T) : (dec l).1 ≤ 1114111 := by
  have := gb_lt l 0
  have := gb_lt l 1
  have := gb_lt l 2
  have := gb_lt l 3
  unfold dec decodeN
  repeat' split
  all_goals (dsimp only; omega)
theorem rn_max (l : T) : -1 ≤ rn l ∧ rn l ≤ 1114111 := by
  have := dec_max l
  unfold rn
  split <;> omega
theorem decode_dec (s : ByteArray) (p : Nat) : Utf8.decode s p = dec (s.data.toList.drop p) := by
  have e : ∀ k, (s.get! (p + k)).toNat = gb (s.data.toList.drop p) k := by
    intro k
    unfold gb
    rw [List.getD_eq_getElem?_getD, List.getElem?_drop]
    have e1 : s.get! (p + k) = (s.data.toList[p + k]?).getD 0 := by
      show s.data[p + k]! = _
      rw [Array.getElem!_eq_getD, Array.getD_eq_getD_getElem?, Array.getElem?_toList]
      rfl
    rw [e1]
  rw [decode_at]
  unfold dec
  have h0 := e 0
  rw [Nat.add_zero] at h0
  rw [h0, e 1, e 2, e 3]
  simp
/-! ### the runes of a text, the bytes of runes -/
/-- The runes of a text, one behind the other. -/
def rs (l : T) : List Int := if h : l ≠ [] then rn l :: rs (l.drop (wd l)) else []
termination_by l.length
decreasing_by
  have := wd_pos h
  have : 0 < l.length := List.length_pos_iff.2 h
  simp; omega
theorem rs_nil : rs [] = [] := by rw [rs]; simp
theorem rs_cons {l : T} (h : l ≠ []) : rs l = rn l :: rs (l.drop (wd l)) := by rw [rs, dif_pos h]
theorem runesFrom_rs (s : ByteArray) : ∀ (n i : Nat) (acc : Array Value), s.size ≤ i + n → (Conv.runesFrom s n i acc).toList = acc.toList ++ (rs (s.data.toList.drop i)).map (.int .i32)
  | 0, i, acc, h => by
    rw [List.drop_eq_nil_of_le (by rw [Array.length_toList]; exact h), rs_nil]
    simp [Conv.runesFrom]
  | n + 1, i, acc, h => by
    unfold Conv.runesFrom
    by_cases hi : i < s.size
    · rw [if_pos hi]
      have hne : s.data.toList.drop i ≠ [] := by
        intro e
        have := congrArg List.length e
        rw [List.length_drop, Array.length_toList] at this
        have h2 : s.data.size = s.size := rfl
        simp at this
        omega
      have hw := decodeN_ge (s.data.toList.drop i).length (gb (s.data.toList.drop i) 0) (gb (s.data.toList.drop i) 1) (gb (s.data.toList.drop i) 2) (gb (s.data.toList.drop i) 3)
      rw [rs_cons hne, decode_dec]
      dsimp only
      rw [runesFrom_rs s n _ _ (by unfold dec; omega), List.map_cons]
      unfold rn wd
      rw [if_neg hne, if_neg hne, List.drop_drop]
      simp
    · rw [if_neg hi, List.drop_eq_nil_of_le (by rw [Array.length_toList]; have h2 : s.data.size = s.size := rfl; omega), rs_nil]
      simp
def en (z : Int) : T := (Utf8.encode z).data.toList
def ens (l : List Int) : T := l.flatMap en
theorem runesBytes_ens (l : List Int) : runesBytes l = ⟨(ens l).toArray⟩ := by
  have key : ∀ (l : List Int) (s : ByteArray), (l.foldl (fun r n => r ++ Utf8.encode n) s).data.toList = s.data.toList ++ ens l := by
    intro l
    induction l with
    | nil => intro s; simp [ens]
    | cons z l ih =>
      intro s
      rw [List.foldl_cons, ih]
      simp [ens, en]
  have := key l ByteArray.empty
  unfold runesBytes
  have e : (List.foldl (fun r n => r ++ Utf8.encode n) ByteArray.empty l).data = (ens l).toArray := by
    apply Array.toList_inj.1
    rw [this]
    simp
  cases h : List.foldl (fun r n => r ++ Utf8.encode n) ByteArray.empty l with
  | mk d => rw [h] at e; rw [← e]
/-- A number that is a rune. -/
def isR (z : Int) : Prop := 0 ≤ z ∧ z ≤ 1114111 ∧ ¬ (55296 ≤ z ∧ z ≤ 57343)
theorem valid_isR {z : Int} (h : isR z) : Utf8.valid z = true := by
  obtain ⟨h1, h2, h3⟩ := h
  unfold Utf8.valid
  simp
  omega
theorem en_cases {z : Int} (h : isR z) : (z < 128 ∧ en z = [UInt8.ofNat z.toNat]) ∨ (128 ≤ z ∧ z < 2048 ∧ en z = [UInt8.ofNat (192 + z.toNat / 64), UInt8.ofNat (128 + z.toNat % 64)])
    ∨ (2048 ≤ z ∧ z < 65536 ∧ en z = [UInt8.ofNat (224 + z.toNat / 4096), UInt8.ofNat (128 + z.toNat / 64 % 64), UInt8.ofNat (128 + z.toNat % 64)])
    ∨ (65536 ≤ z ∧ en z = [UInt8.ofNat (240 + z.toNat / 262144), UInt8.ofNat (128 + z.toNat / 4096 % 64), UInt8.ofNat (128 + z.toNat / 64 % 64), UInt8.ofNat (128 + z.toNat % 64)]) := by
  have hv := valid_isR h
  obtain ⟨h1, h2, h3⟩ := h
  unfold en Utf8.encode
  rw [hv]
  simp only [if_true]
  by_cases c1 : z.toNat < 128
  · exact .inl ⟨by omega, by rw [if_pos c1]⟩
  · by_cases c2 : z.toNat < 2048
    · exact .inr (.inl ⟨by omega, by omega, by rw [if_neg c1, if_pos c2]⟩)
    · by_cases c3 : z.toNat < 65536
      · exact .inr (.inr (.inl ⟨by omega, by omega, by rw [if_neg c1, if_neg c2, if_pos c3]⟩))
      · exact .inr (.inr (.inr ⟨by omega, by rw [if_neg c1, if_neg c2, if_neg c3]⟩))
theorem toNat_of {n : Nat} (h : n < 256) : (UInt8.ofNat n).toNat = n := by simp; omega
theorem dec_en {z : Int} (h : isR z) (r : T) : dec (en z ++ r) = (z.toNat, (en z).length) := by
  obtain ⟨h1, h2, h3⟩ := h
  rw [dec_num _ 4 (Nat.le_refl _)]
  rcases en_cases ⟨h1, h2, h3⟩ with ⟨a, e⟩ | ⟨a, b, e⟩ | ⟨a, b, e⟩ | ⟨a, e⟩
  · rw [e]
    have e0 : gb ([UInt8.ofNat z.toNat] ++ r) 0 = z.toNat := toNat_of (by omega)
    rw [e0]
    unfold decodeN
    rw [if_pos (by omega)]
    rfl
  · rw [e]
    have e0 : gb ([UInt8.ofNat (192 + z.toNat / 64), UInt8.ofNat (128 + z.toNat % 64)] ++ r) 0 = 192 + z.toNat / 64 := toNat_of (by omega)
    have e1 : gb ([UInt8.ofNat (192 + z.toNat / 64), UInt8.ofNat (128 + z.toNat % 64)] ++ r) 1 = 128 + z.toNat % 64 := toNat_of (by omega)
    rw [e0, e1]
    unfold decodeN
    rw [if_neg (by omega), if_pos (by omega), if_pos (by omega)]
    refine Prod.ext ?_ rfl
    dsimp only
    omega
  · rw [e]
    have e0 : gb ([UInt8.ofNat (224 + z.toNat / 4096), UInt8.ofNat (128 + z.toNat / 64 % 64), UInt8.ofNat (128 + z.toNat % 64)] ++ r) 0 = 224 + z.toNat / 4096 := toNat_of (by omega)
    have e1 : gb ([UInt8.ofNat (224 + z.toNat / 4096), UInt8.ofNat (128 + z.toNat / 64 % 64), UInt8.ofNat (128 + z.toNat % 64)] ++ r) 1 = 128 + z.toNat / 64 % 64 := toNat_of (by omega)
    have e2 : gb ([UInt8.ofNat (224 + z.toNat / 4096), UInt8.ofNat (128 + z.toNat / 64 % 64), UInt8.ofNat (128 + z.toNat % 64)] ++ r) 2 = 128 + z.toNat % 64 := toNat_of (by omega)
    rw [e0, e1, e2]
    unfold decodeN
    rw [if_neg (by omega), if_neg (by omega), if_pos (by omega), if_pos (by omega)]
    refine Prod.ext ?_ rfl
    dsimp only
    omega
  · rw [e]
    have e0 : gb ([UInt8.ofNat (240 + z.toNat / 262144), UInt8.ofNat (128 + z.toNat / 4096 % 64), UInt8.ofNat (128 + z.toNat / 64 % 64), UInt8.ofNat (128 + z.toNat % 64)] ++ r) 0 = 240 + z.toNat / 262144 := toNat_of (by omega)
    have e1 : gb ([UInt8.ofNat (240 + z.toNat / 262144), UInt8.ofNat (128 + z.toNat / 4096 % 64), UInt8.ofNat (128 + z.toNat / 64 % 64), UInt8.ofNat (128 + z.toNat % 64)] ++ r) 1 = 128 + z.toNat / 4096 % 64 := toNat_of (by omega)
    have e2 : gb ([UInt8.ofNat (240 + z.toNat / 262144), UInt8.ofNat (128 + z.toNat / 4096 % 64), UInt8.ofNat (128 + z.toNat / 64 % 64), UInt8.ofNat (128 + z.toNat % 64)] ++ r) 2 = 128 + z.toNat / 64 % 64 := toNat_of (by omega)
    have e3 : gb ([UInt8.ofNat (240 + z.toNat / 262144), UInt8.ofNat (128 + z.toNat / 4096 % 64), UInt8.ofNat (128 + z.toNat / 64 % 64), UInt8.ofNat (128 + z.toNat % 64)] ++ r) 3 = 128 + z.toNat % 64 := toNat_of (by omega)
    rw [e0, e1, e2, e3]
    unfold decodeN
    rw [if_neg (by omega), if_neg (by omega), if_neg (by omega), if_pos (by omega), if_pos (by omega)]
    refine Prod.ext ?_ rfl
    dsimp only
    omega
theorem en_ne {z : Int} (h : isR z) : en z ≠ [] := by
  rcases en_cases h with ⟨_, e⟩ | ⟨_, _, e⟩ | ⟨_, _, e⟩ | ⟨_, e⟩ <;> rw [e] <;> simp
theorem rs_ens : ∀ {l : List Int}, (∀ z ∈ l, isR z) → rs (ens l) = l
  | [], _ => rs_nil
  | z :: l, h => by
    have hz := h z List.mem_cons_self
    have hne : ens (z :: l) ≠ [] := by
      unfold ens
      rw [List.flatMap_cons]
      intro e
      exact en_ne hz (List.append_eq_nil_iff.1 e).1
    have hd := dec_en hz (ens l)
    have he : ens (z :: l) = en z ++ ens l := by unfold ens; rw [List.flatMap_cons]
    rw [rs_cons hne]
    unfold rn wd
    rw [if_neg hne, if_neg hne, he, hd]
    dsimp only
    rw [List.drop_left, rs_ens (fun y hy => h y (List.mem_cons_of_mem _ hy))]
    congr 1
    have := hz.1
    omega
theorem dec_isR (l : T) : isR (dec l).1 := by
  have h0 := gb_lt l 0
  have h1 := gb_lt l 1
  have h2 := gb_lt l 2
  have h3 := gb_lt l 3
  unfold isR dec decodeN
  repeat' split
  all_goals (dsimp only; omega)
theorem rs_isR : ∀ {l : T}, ∀ z ∈ rs l, isR z := by
  intro l
  induction l using rs.induct with
  | case1 l h ih =>
    rw [rs_cons h]
    intro z hz
    rcases List.mem_cons.1 hz with rfl | hz
    · unfold rn; rw [if_neg h]; exact dec_isR l
    · exact ih z hz
  | case2 l h =>
    rw [rs, dif_neg h]
    intro z hz
    cases hz
end Go.Proofs.YtflmkgkkjhphkaaDoor.Dec0
