/- What zzTrimLeft answers for the set of one slash: the text without the slashes at its beginning; for every text. -/
import Derived.Test.YtckfbpgjegbmlaaProg
import Derived.Test.YtckfbpgjegbmlaaWMore
import Derived.Test.YtckfbpgjegbmlaaUtf0
import Derived.Lib.OthersKept
import Derived.Lib.FieldsU
import Derived.Deep.LoopGhost
import Derived.Deep.DeepMust
import Derived.Lib.Hide
import Derived.WalkKit
set_option linter.unusedVariables false
namespace Go.Proofs.Ytckfbpgjegbmlaa
open Go.RowKit Go.Lib Go.Proofs.YtckfbpgjegbmlaaW.PrintWords Go.Proofs.Ytckfbpgjegbmlaa.Lib0 Go.Proofs.Ytckfbpgjegbmlaa.Utf0

def oneSl : ByteArray := ⟨#[47]⟩
theorem oneSl_decode : Utf8.decode oneSl 0 = (47, 1) := by decide
theorem oneSl_size : oneSl.size = 1 := rfl

set_option maxHeartbeats 800000 in
theorem inSet_any (c : Int) (b : Bool) (hbc : b = decide (c = 47)) (w : World) :
    Calls Try.prog 71 #[.int .i32 c, .string oneSl] w fun e w' => e = .returned (.bool b) ∧ Below w.heap.size w w' := by
  have HBC := Lib.hid hbc
  clear hbc
  go_enter Try.func71, Try.ntmps71
  go_wp2
  go_loopg [] 2 (fun gf wx => ∃ pos : Nat, wx.heap[w.heap.size]? = some (.stringIter oneSl pos) ∧ Below w.heap.size w wx ∧ ((gf = 2 ∧ pos = 0) ∨ (gf = 1 ∧ pos = 1 ∧ c ≠ 47)))
  case atStart =>
    exact ⟨0, World.iter_heap w oneSl 0, (Below.refl _ w).alloc (Nat.le_refl _) _, Or.inl ⟨rfl, rfl⟩⟩
  case round =>
    obtain ⟨pos, hit, hb, hc⟩ := hrel
    rcases hc with ⟨rfl, rfl⟩ | ⟨rfl, rfl, hne⟩
    · have hnx : ∀ ty, (Instr.next (.pointer (some ⟨w.heap.size, 0, none⟩)) true ty).run Try.prog wr = _ := fun ty => Lib.run_next_any_at wr w.heap.size oneSl 0 ty hit (by rw [oneSl_size]; omega)
      rw [oneSl_decode] at hnx
      have hit2 := Lib.iterAt_heap wr w.heap.size oneSl 0 1 hit
      have hb2 := Lib.below_iterAt hb (k := w.heap.size) (Nat.le_refl _) oneSl 1
      obtain ⟨W, hWd⟩ : ∃ W, wr.iterAt w.heap.size oneSl 1 = W := ⟨_, rfl⟩
      rw [Nat.zero_add] at hnx
      rw [hWd] at hnx hit2 hb2
      have HI := Lib.hid hit2
      clear hit hb hit2 hWd
      by_cases h47 : c = 47
      · have c1 : (c == 47) = true := by simp [h47]
        have hd : b = true := by rw [HBC.out]; simp [h47]
        clear HBC h47
        subst hd
        go_wp2
        go_ret
        exact ⟨rfl, hb2⟩
      · have c1 : (c == 47) = false := by simp [h47]
        have HN := Lib.hid h47
        clear h47
        go_wp2
        go_roundg 1
        case measure => omega
        case rel => exact ⟨1, HI.out, hb2, Or.inr ⟨rfl, rfl, HN.out⟩⟩
    · have hnx : ∀ ty, (Instr.next (.pointer (some ⟨w.heap.size, 0, none⟩)) true ty).run Try.prog wr = _ := fun ty => Lib.run_next_end_at wr w.heap.size oneSl 1 ty hit (by rw [oneSl_size]; omega)
      have hd : b = false := by rw [HBC.out]; exact decide_eq_false hne
      clear HBC hne hit
      subst hd
      go_wp2
      go_ret
      exact ⟨rfl, hb⟩

/-- how many slashes stand at a text's beginning. -/
def lead : List UInt8 → Nat
  | [] => 0
  | c :: l => if c = 47 then lead l + 1 else 0
theorem lead_le : ∀ l : List UInt8, lead l ≤ l.length
  | [] => Nat.le_refl _
  | c :: l => by unfold lead; have := lead_le l; split <;> simp <;> omega
theorem lead_all : ∀ (l : List UInt8) (j : Nat) (h : j < l.length), j < lead l → l[j] = 47
  | [], j, h, _ => by simp at h
  | c :: l, j, h, hj => by
    unfold lead at hj
    split at hj
    · cases j with
      | zero => simpa
      | succ j => simp; exact lead_all l j (by simpa using h) (by omega)
    · omega
theorem lead_next : ∀ (l : List UInt8) (h : lead l < l.length), l[lead l] ≠ 47
  | [], h => by simp at h
  | c :: l, h => by
    by_cases hc : c = 47
    · have e : lead (c :: l) = lead l + 1 := by rw [lead, if_pos hc]
      simp only [e] at h ⊢
      simp
      exact lead_next l (by simpa using h)
    · have e : lead (c :: l) = 0 := by rw [lead, if_neg hc]
      simp only [e]
      simpa using hc

def paths_zzTrimLeft.f (a0 : ByteArray) (a1 : ByteArray) : Option ByteArray :=
  if a1 = oneSl then (if a0.size ≤ 9223372036854775807 then some (a0.extract (lead a0.data.toList) a0.size) else none) else none

set_option maxHeartbeats 800000 in
theorem trimLeft_any (s : ByteArray) (hs : s.size ≤ 9223372036854775807) (r : ByteArray) (n : Nat) (hn : lead s.data.toList = n) (hr : r = s.extract n s.size) (w : World) :
    Calls Try.prog 63 #[.string s, .string oneSl] w fun e w' => e = .returned (.string r) ∧ Below w.heap.size w w' := by
  have nle : n ≤ s.size := by rw [← hn, ← size_len]; exact lead_le _
  have hall : ∀ j : Nat, j < n → bt s j = 47 := fun j hj => by
    have hl : j < s.data.toList.length := by rw [size_len]; omega
    rw [bt_list, show ((j : Int)).toNat = j from rfl, getD_in _ _ _ hl, lead_all _ j hl (by omega)]; rfl
  have hnext : n < s.size → bt s n ≠ 47 := fun h e => by
    have hl : n < s.data.toList.length := by rw [size_len]; omega
    have := lead_next s.data.toList (by rw [hn]; exact hl)
    apply this
    simp only [hn]
    apply UInt8.toNat_inj.1
    rw [bt_list, show ((n : Int)).toNat = n from rfl, getD_in _ _ _ hl] at e
    show (s.data.toList[n]).toNat = 47
    omega
  have HA := Lib.hid hall
  have HX := Lib.hid hnext
  have HR := Lib.hid hr
  clear hall hnext hn hr
  go_enter Try.func63, Try.ntmps63
  go_wp2
  go_loopg [] (s.size + 1) (fun gf wx => ∃ pos : Nat, wx.heap[w.heap.size]? = some (.stringIter s pos) ∧ Below w.heap.size w wx ∧ pos ≤ n ∧ gf + pos = s.size + 1)
  case atStart =>
    exact ⟨0, World.iter_heap w s 0, (Below.refl _ w).alloc (Nat.le_refl _) _, by omega, by omega⟩
  case round =>
    obtain ⟨pos, hit, hb, hp, hg⟩ := hrel
    by_cases hlt : pos < s.size
    · have sp := span s pos hlt
      have hnx : ∀ ty, (Instr.next (.pointer (some ⟨w.heap.size, 0, none⟩)) true ty).run Try.prog wr = _ := fun ty => Lib.run_next_any_at wr w.heap.size s pos ty hit hlt
      obtain ⟨R, hR⟩ : ∃ R, (Utf8.decode s pos).1 = R := ⟨_, rfl⟩
      obtain ⟨K, hK⟩ : ∃ K, (Utf8.decode s pos).2 = K := ⟨_, rfl⟩
      rw [hR, hK] at hnx
      have hit2 := Lib.iterAt_heap wr w.heap.size s pos (pos + K) hit
      have hb2 := Lib.below_iterAt hb (k := w.heap.size) (Nat.le_refl _) s (pos + K)
      obtain ⟨W, hWd⟩ : ∃ W, wr.iterAt w.heap.size s (pos + K) = W := ⟨_, rfl⟩
      rw [hWd] at hnx hit2 hb2
      have HI := Lib.hid hit2
      have HB := Lib.hid hb2
      by_cases h47 : pos < n
      · have e47 := HA.out pos h47
        obtain ⟨k1, r1⟩ := sp.low (by omega)
        have hR' : (R : Int) = 47 := by rw [← hR]; omega
        have hK' : K = 1 := by rw [← hK]; exact k1
        have cS := inSet_any (R : Int) true (decide_eq_true hR').symm W
        have CS := Lib.hid cS
        clear cS hR' hR hK e47 k1 r1 sp hit hb hit2 hb2 hWd
        obtain ⟨g', rfl⟩ : ∃ g', gk = g' + 1 := ⟨gk - 1, by omega⟩
        go_wp2_with (go_at_call 71; refine CS.out.mono ?_; rintro e W' ⟨rfl, hbW⟩)
        go_roundg g'
        case measure => omega
        case rel =>
          have hlt2 : w.heap.size < W.heap.size := (Array.getElem?_eq_some_iff.1 HI.out).1
          exact ⟨pos + K, (hbW.block _ hlt2).trans HI.out, HB.out.trans (hbW.mono HB.out.size), by omega, by omega⟩
      · have hpn : pos = n := by omega
        subst hpn
        have hne := HX.out hlt
        have hR' : ¬ (R : Int) = 47 := by
          intro e
          by_cases q : bt s pos < 128
          · have := (sp.low q).2; rw [hR] at this; omega
          · have := (sp.high (by omega)).1; rw [hR] at this; omega
        have cS := inSet_any (R : Int) false (decide_eq_false hR').symm W
        have CS := Lib.hid cS
        clear cS hR' hR hK hne sp hit hb hit2 hb2 hWd HX HA
        have q1 : (0 : Int) ≤ (pos : Int) := by omega
        have q2 : (pos : Int) ≤ (s.size : Int) := by omega
        go_wp2_with (go_at_call 71; refine CS.out.mono ?_; rintro e W' ⟨rfl, hbW⟩)
        go_ret
        exact ⟨by rw [HR.out]; rfl, HB.out.trans (hbW.mono HB.out.size)⟩
    · have hpn : pos = s.size := by omega
      subst hpn
      have hn' : n = s.size := by omega
      subst hn'
      have hnx : ∀ ty, (Instr.next (.pointer (some ⟨w.heap.size, 0, none⟩)) true ty).run Try.prog wr = _ := fun ty => Lib.run_next_end_at wr w.heap.size s s.size ty hit hlt
      have he : s.extract s.size s.size = ⟨#[]⟩ := by
        apply bytes_ext
        rw [data_ext]
        exact List.drop_eq_nil_of_le (by rw [List.length_take, size_len]; omega)
      have hr2 : r = ⟨#[]⟩ := HR.out.trans he
      clear hit he HX HA hlt HR
      subst hr2
      go_wp2
      go_ret
      exact ⟨rfl, hb⟩

theorem paths_zzTrimLeft.calls (a0 : ByteArray) (a1 : ByteArray) (r : ByteArray) (w : World) (h : paths_zzTrimLeft.f a0 a1 = some r) :
    Calls Try.prog 63 #[.string a0, .string a1] w fun e w' => e = .returned (.string r) ∧ Below w.heap.size w w' := by
  unfold paths_zzTrimLeft.f at h
  split at h
  · rename_i h1
    subst h1
    split at h
    · rename_i h2
      cases h
      exact trimLeft_any a0 h2 _ _ rfl rfl w
    · cases h
  · cases h

end Go.Proofs.Ytckfbpgjegbmlaa
