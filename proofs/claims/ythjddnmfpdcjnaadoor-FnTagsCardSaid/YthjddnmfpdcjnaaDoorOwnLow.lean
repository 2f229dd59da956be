/- What the laws' low answers: a text whose bytes are put in lower case by a bit; for every text. -/
import Derived.Test.YthjddnmfpdcjnaaDoorProg
import Derived.Test.YthjddnmfpdcjnaaDoorWMore
import Derived.Test.YthjddnmfpdcjnaaDoorLib0
import Derived.Lib.ConvBytes
import Derived.Laws.BytesArg
import Derived.Deep.LoopGhost
import Derived.Lib.Hide
import Derived.WalkKit
import Derived.Outline
import Derived.BigQuiet
set_option linter.unusedVariables false
namespace Go.Proofs.YthjddnmfpdcjnaaDoor
open Go.RowKit Go.Lib Go.Proofs.YthjddnmfpdcjnaaDoorW.PrintWords Go.Proofs.YthjddnmfpdcjnaaDoor.Lib0

def lowO (c : Int) : Int := Go.bits .or .u8 c 32
def lowB (s : ByteArray) : ByteArray := strOfNums ((bytesOf s).map lowO)

def OrAt (s : ByteArray) (g k : Nat) (w : World) : Prop :=
  (∀ j : Nat, j < s.size → w.cell? ⟨g, j, none⟩ = some (.int .u8 (if j < k then lowO (bt s j) else bt s j))) ∧ (∀ j : Nat, j < s.size → w.frozen? ⟨g, j, none⟩ = false)

theorem OrAt.store {s : ByteArray} {g k : Nat} {w : World} (h : OrAt s g k w) (hk : k < s.size) : OrAt s g (k + 1) (w.setCell ⟨g, k, none⟩ (.int .u8 (lowO (bt s k)))) := by
  refine ⟨fun j hj => ?_, fun j hj => by rw [World.frozen?_setCell]; exact h.2 j hj⟩
  by_cases q : j = k
  · subst q; rw [World.cell?_setCell_same _ _ _ (h.1 j hj), if_pos (by omega)]
  · rw [World.cell?_setCell_other _ _ _ _ (by intro e; cases e; exact q rfl), h.1 j hj]
    by_cases q2 : j < k
    · rw [if_pos q2, if_pos (by omega)]
    · rw [if_neg q2, if_neg (by omega)]

set_option maxHeartbeats 800000 in
theorem laws_low_any (s : ByteArray) (hs : s.size ≤ 140737488355328) (w : World) :
    Calls Tryd.prog 19 #[.string s] w fun e w' => e = .returned (.string (lowB s)) ∧ Below w.heap.size w w' := by
  have hcv := fun (W : World) => print_bytes (P := Tryd.prog) 9 58 5 Tryd.underlying9 Tryd.underlying58 Tryd.underlying5 s W
  obtain ⟨cap, hcap⟩ : ∃ cap, grownCap w s.size 0 5 = cap := ⟨_, rfl⟩
  have hcv1 := hcv w
  rw [hcap] at hcv1
  clear hcv
  have hb0 : Below w.heap.size w (Lib.bytesWorld w 5 s) := bytes_below (Below.refl _ _) (Nat.le_refl _) _ _
  have hl0 : OrAt s w.heap.size 0 (Lib.bytesWorld w 5 s) := by
    refine ⟨fun j hj => ?_, fun j hj => ?_⟩
    · rw [Lib.bytesWorld_cell w _ s j hj, if_neg (by omega), bt_list]; rfl
    · unfold World.frozen?
      rw [Lib.bytesWorld_at_new]
      have : s.size ≤ (Lib.bytesCells w 5 s).size := by unfold Lib.bytesCells; simp
      simp; omega
  obtain ⟨W0, hW0⟩ : ∃ W0, Lib.bytesWorld w 5 s = W0 := ⟨_, rfl⟩
  rw [hW0] at hcv1 hb0 hl0
  have HB := Lib.hid hb0
  have HL := Lib.hid hl0
  clear hb0 hl0 hW0 hcap
  go_enter Tryd.func19, Tryd.ntmps19
  go_wp2
  go_loopg [9] s.size (fun gf i wr => ∃ k : Nat, i = .int .i64 k ∧ k ≤ s.size ∧ gf + k = s.size ∧ OrAt s w.heap.size k wr ∧ Below w.heap.size w wr)
  case atStart => exact ⟨0, rfl, by omega, by omega, HL.out, HB.out⟩
  case round =>
    clear hcv1 HB HL
    obtain ⟨k, rfl, hk, hg, hl, hb⟩ := hrel
    by_cases hlt : k < s.size
    · obtain ⟨g', rfl⟩ : ∃ g', gk = g' + 1 := ⟨gk - 1, by omega⟩
      obtain ⟨c, hc⟩ : ∃ c, bt s (k : Int) = c := ⟨_, rfl⟩
      have hcell := hl.1 k hlt
      rw [if_neg (by omega), hc] at hcell
      have hfro := hl.2 k hlt
      have HS := Lib.hid (hl.store hlt)
      rw [hc] at HS
      have HB2 := Lib.hid hb
      have t1 : decide ((k : Int) < (s.size : Int)) = true := decide_eq_true (by omega)
      have t2 : decide (k < s.size) = true := decide_eq_true hlt
      clear hl hb hc
      go_wp2
      go_roundg g'
      case measure => omega
      case rel => exact ⟨k + 1, by go_num, by omega, by omega, HS.out, HB2.out.setCell (Nat.le_refl _) _⟩
    · have hkk : k = s.size := by omega
      subst hkk
      have hst := run_convert_bytes_arg (P := Tryd.prog) (w := wr) 58 5 Tryd.underlying58 Tryd.underlying5 w.heap.size 0 s.size cap ((bytesOf s).map lowO) (by rw [List.length_map, bytesOf_length]) (fun i hi => by
        rw [Nat.zero_add, hl.1 i hi, if_pos hi]
        have h2 : i < ((bytesOf s).map lowO).length := by rw [List.length_map, bytesOf_length]; exact hi
        have h3 : i < (bytesOf s).length := by rw [bytesOf_length]; exact hi
        rw [getD_in _ _ _ h2, List.getElem_map]
        have h4 := rd_bytesOf s (i : Int)
        unfold rd at h4
        rw [show ((i : Int)).toNat = i from rfl, getD_in _ _ _ h3] at h4
        rw [h4]) 9 Tryd.underlying9
      have hst2 : (convert 58 9 (.slice (some ⟨w.heap.size, 0, none⟩) s.size cap)).run Tryd.prog wr = .ok (.string (lowB s)) wr := hst
      obtain ⟨r, hr⟩ : ∃ r, lowB s = r := ⟨_, rfl⟩
      rw [hr] at hst2
      have HR := Lib.hid hr
      have HB2 := Lib.hid hb
      clear hst hr hl hb
      go_wp2
      go_ret
      exact ⟨by rw [HR.out]; rfl, HB2.out⟩

end Go.Proofs.YthjddnmfpdcjnaaDoor
