/- slices.All over texts: what the iterator asks of a loop's body, and what it tells. -/
import Derived.RangeFuncBox
import Derived.RangeFuncLeaves
import Derived.Shelf.Abstract
import Derived.WalkKit
import Derived.OwnWalkIn
import Derived.TacticsInMore
import Derived.LoopNIn
import Derived.LoopIn
import Derived.Test.YtmmggofbpcmliaaStkR
import Derived.Test.YtmmggofbpcmliaaProg
set_option linter.unusedVariables false
namespace Go.Proofs.Ytmmggofbpcmliaa.StkI
open Go.RowKit Go.Shelf Go.Rx
attribute [local go_sem] Oper.semAt_some
def tx (l : List ByteArray) (j : Nat) : ByteArray := l[j]?.getD ⟨#[]⟩
def upto (l : List ByteArray) (k : Nat) : List (Nat × ByteArray) := (List.range k).map fun j => (j, tx l j)
theorem upto_succ (l : List ByteArray) (k : Nat) : upto l (k + 1) = upto l k ++ [(k, tx l k)] := by simp [upto, List.range_succ]
theorem upto_length (l : List ByteArray) (k : Nat) : (upto l k).length = k := by simp [upto]
theorem upto_prefix (l : List ByteArray) {k n : Nat} (h : k ≤ n) : upto l k <+: upto l n := by
  obtain ⟨d, rfl⟩ := Nat.exists_eq_add_of_le h
  induction d with
  | zero => exact List.prefix_rfl
  | succ d ih => exact (ih (by omega)).trans (by rw [← Nat.add_assoc, upto_succ]; exact List.prefix_append _ _)
theorem upto_snd (l : List ByteArray) : (upto l l.length).map (·.2) = l := by
  apply List.ext_getElem
  · simp [upto]
  · intro i h1 h2
    simp [upto, tx, h2]
theorem cell_of_heap {w w' : World} {k o : Nat} (h : w'.heap[k]? = w.heap[k]?) : w'.cell? ⟨k, o, none⟩ = w.cell? ⟨k, o, none⟩ := by simp [World.cell?, h]
set_option maxRecDepth 100000 in
set_option maxHeartbeats 2000000 in
theorem all1_in (n : Nat) (hn : 1 ≤ n) (l0 gb : Nat) (T : Nat → Prop) (g cap : Nat) (zs : List ByteArray) (hreach : zs.length * 16 ≤ 140737488351232) (hTb : T gb) (hTg : T g) (J Jx : List (Nat × ByteArray) → World → Prop)
    (hY : ∀ pre x W, J pre W → pre.length < zs.length → YieldAt Fence.wide (n - 1) Try.prog l0 #[.int .i64 (x.1 : Nat), .string x.2] W fun e W' =>
      (e = .returned (.bool true) ∧ J (pre ++ [x]) W' ∧ KpT T W W') ∨ (e = .returned (.bool false) ∧ Jx (pre ++ [x]) W'))
    (W : World) (hBs : W.cell? ⟨gb, 0, none⟩ = some (.slice (some ⟨g, 0, none⟩) zs.length cap)) (hc : ∀ j, j < zs.length → W.cell? ⟨g, j, none⟩ = some (.string (tx zs j))) (h0 : J [] W) :
    CallsIn Fence.wide n Try.prog 66 #[.func (.yield l0) #[] #[], .pointer (some ⟨gb, 0, none⟩)] W fun e W' => (∃ v, e = .returned v) ∧
      ((∃ ys, ys = upto zs zs.length ∧ J ys W') ∨ (∃ pre, (∃ k, k ≤ zs.length ∧ pre = upto zs k) ∧ Jx pre W')) := by
  refine callsIn_of_wp Try.func66 rfl trivial ?_ rfl
  simp only [Try.ntmps66, List.size_toArray, List.length_cons, List.length_nil, Nat.reduceAdd, Nat.reduceSub, Array.replicate_succ, Array.replicate_zero, List.push_toArray, List.append_toArray, List.nil_append, List.cons_append]
  gi_wp2
  gi_loopw [7] (fun i wr => ∃ k : Nat, k ≤ zs.length ∧ i = .int .i64 k ∧ J (upto zs k) wr ∧ KpT T W wr)
    (fun i _ => zs.length - (intOf i).toNat)
  case atStart => exact ⟨0, Nat.zero_le _, rfl, h0, fun _ _ => rfl⟩
  case round =>
    obtain ⟨k, hk, rfl, hJs, hnx⟩ := hrel
    have hcx : k < zs.length → wr.cell? ⟨g, k, none⟩ = some (.string (tx zs k)) := fun h => (cell_of_heap (hnx g hTg)).trans (hc k h)
    by_cases hlt : k < zs.length
    · obtain ⟨fn, tmps, assign, body, hy, hR⟩ := hY _ (k, tx zs k) wr hJs (by rw [upto_length]; exact hlt)
      dsimp only at hy
      have hcx' := hcx hlt
      gi_wp2
      refine hR.mono ?_
      rintro e W3 (⟨rfl, hJ3, hk3⟩ | ⟨rfl, hJx3⟩)
      · gi_wp2
        go_roundw
        case rel => exact ⟨k + 1, by omega, by simp, by rw [upto_succ]; exact hJ3, fun b hb => (hk3 b hb).trans (hnx b hb)⟩
        case measure => simp [intOf]; omega
      · gi_wp2
        refine bodyPost_ret (results_none rfl _ _ _) rfl ?_
        exact ⟨⟨_, rfl⟩, .inr ⟨_, ⟨k + 1, by omega, (upto_succ _ _).symm⟩, hJx3⟩⟩
    · obtain rfl : k = zs.length := by omega
      gi_wp2
      go_end0
      exact ⟨⟨_, rfl⟩, .inl ⟨_, rfl, hJs⟩⟩
set_option maxRecDepth 100000 in
set_option maxHeartbeats 1000000 in
/-- .. at the nil slice: no round. -/
theorem all1_nil_in (n : Nat) (l0 gb : Nat) (J : List (Nat × ByteArray) → World → Prop) (W : World) (hBs : W.cell? ⟨gb, 0, none⟩ = some (.slice none 0 0)) (h0 : J [] W) :
    CallsIn Fence.wide n Try.prog 66 #[.func (.yield l0) #[] #[], .pointer (some ⟨gb, 0, none⟩)] W fun e W' => (∃ v, e = .returned v) ∧ J [] W' := by
  refine callsIn_of_wp Try.func66 rfl trivial ?_ rfl
  simp only [Try.ntmps66, List.size_toArray, List.length_cons, List.length_nil, Nat.reduceAdd, Nat.reduceSub, Array.replicate_succ, Array.replicate_zero, List.push_toArray, List.append_toArray, List.nil_append, List.cons_append]
  gi_wp2
  gi_loopw [7] (fun i wr => i = .int .i64 0 ∧ J [] wr) (fun _ _ => 0)
  case atStart => exact ⟨rfl, h0⟩
  case round =>
    obtain ⟨rfl, hJs⟩ := hrel
    gi_wp2
    go_end0
    exact ⟨⟨_, rfl⟩, hJs⟩
theorem stops {B : Nat} {r : Row} {zs : List ByteArray} (gb : Nat) (T : Nat → Prop) (hTb : T gb) (hTr : ∀ k, r.blk k → T k) (hok : r.ok B 1 zs.length (zs.map .string)) (hreach : zs.length ≤ 1000000000) (w : World)
    (hlb : gb < w.heap.size) (hb : w.cell? ⟨gb, 0, none⟩ = some (r.val zs.length)) (hrm : Has (r.mem (zs.map .string) 9) w) :
    SeqStopsK Fence.wide 2 Try.prog 66 #[.pointer (some ⟨gb, 0, none⟩)] (fun x : Nat × ByteArray => #[Value.int .i64 (x.1 : Nat), Value.string x.2]) (KpT T) (fun ys => ys = upto zs zs.length) (fun pre => pre <+: upto zs zs.length) (upto zs zs.length).length w := fun l0 J Jx W hW _ _ hY h0 => by
  have hb' : W.cell? ⟨gb, 0, none⟩ = some (r.val zs.length) := (cell_of_heap (hW.block gb hlb)).trans hb
  have hrm' : Has (r.mem (zs.map .string) 9) W := hrm.below hW
  cases r with
  | nil =>
    obtain ⟨hz, _⟩ := hok
    have e : zs = [] := List.length_eq_zero_iff.1 hz
    subst e
    exact (all1_nil_in 2 l0 gb J W hb' h0).mono fun e W' ⟨he, hj⟩ => ⟨he, .inl ⟨_, rfl, hj⟩⟩
  | «at» g cap rest =>
    refine (all1_in 2 (by omega) l0 gb T g cap zs (by omega) hTb (hTr g rfl) J Jx (fun pre x W1 hj hl => hY pre x W1 hj (by rw [upto_length]; exact hl)) W hb' (fun j hj => ?_) h0).mono ?_
    · refine Has.cell (i := 0) (t := 9) hrm' rfl ?_
      rw [nth_eq, List.getElem?_append_left (by simpa using hj), List.getElem?_map, List.getElem?_eq_getElem hj]
      simp [tx, hj]
    · rintro e W' ⟨he, ⟨ys, rfl, hj⟩ | ⟨pre, ⟨k, hk, rfl⟩, hj⟩⟩
      · exact ⟨he, .inl ⟨_, rfl, hj⟩⟩
      · exact ⟨he, .inr ⟨_, upto_prefix zs hk, hj⟩⟩
end Go.Proofs.Ytmmggofbpcmliaa.StkI
