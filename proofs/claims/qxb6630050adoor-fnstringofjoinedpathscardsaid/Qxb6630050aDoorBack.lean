/-
  SEAT b6630050aD: slices.Backward at a slice of paths (13) and its closure (19): the iterator's contract.
-/
import Derived.Test.Qxb6630050aDoorParts
import Derived.Test.Qxb6630050aDoorProg
import Derived.RangeFuncNested
import Derived.RangeFuncBound
import Derived.RangeFuncCalls
import Derived.RangeFuncLeaves
import Derived.RangeFuncFrom
import Derived.Shelf.Abstract
import Derived.Shelf.RegionOpen
import Derived.OwnWalkIn
import Derived.TacticsInMore
import Derived.LoopNIn
import Derived.LoopIn
namespace Go.Proofs.Qxb6630050aDoor
open Go.RowKit Go.Shelf
attribute [local go_sem] Oper.semAt_some

/-- What a round keeps: all below n₀, and the block in which the captured slice lies. -/
def KpB (n₀ Bs : Nat) (W W' : World) : Prop := Below n₀ W W' ∧ W'.heap[Bs]? = W.heap[Bs]?
theorem KpB.refl (n₀ Bs : Nat) (W : World) : KpB n₀ Bs W W := ⟨Below.refl _ _, rfl⟩
theorem KpB.trans {n₀ Bs : Nat} {A B C : World} (h : KpB n₀ Bs A B) (k : KpB n₀ Bs B C) : KpB n₀ Bs A C := ⟨h.1.trans k.1, k.2.trans h.2⟩
theorem KpB.cell {n₀ Bs : Nat} {W W' : World} (h : KpB n₀ Bs W W') (o : Nat) : W'.cell? ⟨Bs, o, none⟩ = W.cell? ⟨Bs, o, none⟩ := World.cell?_of_block (w := W) h.2

/-- What comes in round j. -/
def encB (N : Nat) (bk : Nat → Nat) (j : Fin N) : Array Value := #[.int .i64 ((N : Int) - 1 - (j.1 : Int)), .pointer (some ⟨bk j.1, 0, none⟩)]

theorem finRange_take_succ (N k : Nat) (h : k < N) : (List.finRange N).take (k + 1) = (List.finRange N).take k ++ [⟨k, h⟩] := by
  rw [List.take_succ_eq_append_getElem (by simpa using h)]
  simp

set_option maxRecDepth 100000 in
set_option maxHeartbeats 2000000 in
theorem back19_in (n : Nat) (hn : 1 ≤ n) (l Bs n₀ N cap : Nat) (sa : Option Addr) (bk : Nat → Nat) (hN : N ≤ 65536) (J Jx : List (Fin N) → World → Prop)
    (hY : ∀ pre x W, J pre W → pre.length < N → YieldAt Fence.wide (n - 1) Tryd.prog l (encB N bk x) W fun e W' =>
      (e = .returned (.bool true) ∧ J (pre ++ [x]) W' ∧ KpB n₀ Bs W W') ∨ (e = .returned (.bool false) ∧ Jx (pre ++ [x]) W'))
    (W : World) (hBs : W.cell? ⟨Bs, 0, none⟩ = some (.slice sa N cap)) (hc : 0 < N → ∃ g, sa = some ⟨g, 0, none⟩ ∧ g < n₀ ∧ ∀ i, i < N → W.cell? ⟨g, i, none⟩ = some (.pointer (some ⟨bk (N - 1 - i), 0, none⟩))) (h0 : J [] W) :
    CallsIn Fence.wide n Tryd.prog 19 #[.func (.yield l) #[] #[], .pointer (some ⟨Bs, 0, none⟩)] W fun e W' => (∃ v, e = .returned v) ∧
      ((∃ ys, ys = List.finRange N ∧ J ys W') ∨ (∃ pre, True ∧ Jx pre W')) := by
  refine callsIn_of_wp Tryd.func19 rfl trivial ?_ rfl
  simp only [Tryd.ntmps19, List.size_toArray, List.length_cons, List.length_nil, Nat.reduceAdd, Nat.reduceSub, Array.replicate_succ, Array.replicate_zero, List.push_toArray, List.append_toArray, List.nil_append, List.cons_append]
  gi_wp2
  gi_loopw [3] (fun i wr => ∃ k : Nat, k ≤ N ∧ i = .int .i64 ((N : Int) - 1 - (k : Int)) ∧ J ((List.finRange N).take k) wr ∧ KpB n₀ Bs W wr) (fun i _ => (intOf i + 1).toNat)
  case atStart => exact ⟨0, Nat.zero_le _, by go_num, h0, KpB.refl _ _ _⟩
  case round =>
    obtain ⟨k, hk, rfl, hJs, hnx⟩ := hrel
    have hb' := (hnx.cell 0).trans hBs
    by_cases hlt : k < N
    · obtain ⟨g, rfl, hg, hcs⟩ := hc (by omega)
      obtain ⟨fn, tmps, assign, body, hy, hR⟩ := hY _ (⟨k, hlt⟩ : Fin N) wr hJs (by simp; omega)
      dsimp only [encB] at hy
      have hcx := (hnx.1.cell (p := ⟨g, N - 1 - k, none⟩) hg).trans (hcs (N - 1 - k) (by omega))
      rw [show N - 1 - (N - 1 - k) = k by omega] at hcx
      gi_wp2
      refine hR.mono ?_
      rintro e W3 (⟨rfl, hJ3, hk3⟩ | ⟨rfl, hJx3⟩)
      · gi_wp2
        go_roundw
        case rel => exact ⟨k + 1, by omega, by go_num, by rw [finRange_take_succ N k hlt]; exact hJ3, hnx.trans hk3⟩
        case measure => simp [intOf]; omega
      · gi_wp2
        refine bodyPost_ret (results_none rfl _ _ _) rfl ?_
        exact ⟨⟨_, rfl⟩, .inr ⟨_, trivial, hJx3⟩⟩
    · obtain rfl : k = N := by omega
      gi_wp2
      go_end0
      exact ⟨⟨_, rfl⟩, .inl ⟨_, rfl, by rw [List.take_of_length_le (by simp)] at hJs; exact hJs⟩⟩

set_option maxHeartbeats 1000000 in
/-- slices.Backward(s): the slice value is boxed; the function value captures the box. -/
theorem back13_in (n : Nat) (a : Option Addr) (len cap : Nat) (w : World) :
    CallsIn Fence.wide n Tryd.prog 13 #[.slice a len cap] w fun e w' => e = .returned (.func (.func 19) #[] #[.pointer (some ⟨w.heap.size, 0, none⟩)]) ∧ w' = w.alloc (.cells #[.slice a len cap] 38) := by
  refine callsIn_of_wp Tryd.func13 rfl trivial ?_ rfl
  simp only [Tryd.ntmps13, List.size_toArray, List.length_cons, List.length_nil, Nat.reduceAdd, Nat.reduceSub, Array.replicate_succ, Array.replicate_zero, List.push_toArray, List.append_toArray, List.nil_append, List.cons_append]
  gi_wp2
  go_ret
  exact ⟨rfl, rfl⟩

/-- The closure hands every node over, the root's first. -/
theorem back_stops (n : Nat) (hn : 1 ≤ n) (Bs n₀ N cap : Nat) (sa : Option Addr) (bk : Nat → Nat) (hN : N ≤ 65536) (w : World) (hBs : Bs < w.heap.size) (hn₀ : n₀ ≤ w.heap.size)
    (hb : w.cell? ⟨Bs, 0, none⟩ = some (.slice sa N cap)) (hc : 0 < N → ∃ g, sa = some ⟨g, 0, none⟩ ∧ g < n₀ ∧ ∀ i, i < N → w.cell? ⟨g, i, none⟩ = some (.pointer (some ⟨bk (N - 1 - i), 0, none⟩))) :
    SeqStopsK Fence.wide n Tryd.prog 19 #[.pointer (some ⟨Bs, 0, none⟩)] (encB N bk) (KpB n₀ Bs) (fun ys => ys = List.finRange N) (fun _ => True) N w := fun l J Jx W hW _ _ hY h0 => by
  refine back19_in n hn l Bs n₀ N cap sa bk hN J Jx hY W ((hW.cell (p := ⟨Bs, 0, none⟩) hBs).trans hb) (fun hp => ?_) h0
  obtain ⟨g, h1, h2, h3⟩ := hc hp
  exact ⟨g, h1, h2, fun i hi => (hW.cell (p := ⟨g, i, none⟩) (by show g < _; omega)).trans (h3 i hi)⟩

end Go.Proofs.Qxb6630050aDoor
