/-
  SEAT b6630001a: from what an argument reads as to what the walks are told of it.
-/
import Derived.Test.Qxb6630001aEq
import Derived.ProofKit
import Derived.OpenShut
import Derived.ShutString
import Derived.ChangeOld
import Derived.Below
import Derived.SliceStrings
import Derived.Deep.Slices
namespace Go.Proofs.Qxb6630001a
open Go.ChangeShapes Go.WideShapes Go.ChangeAt Go.RowKit
open Go.Deep (choose_lt open_slice1)

theorem own : ownKnob Try.prog.godebug = none := by kernel_rfl
theorem laidOut : laidOutB Try.prog = true := by kernel_rfl
theorem Try.cells9 : Try.prog.cellsOf 9 = 1 := by kernel_rfl
theorem Try.cells23 : Try.prog.cellsOf 23 = 1 := by kernel_rfl
theorem Try.cells3 : Try.prog.cellsOf 3 = 1 := by kernel_rfl

theorem cell_lt {w : World} {b o : Nat} {v : Value} (h : w.cell? ⟨b, o, none⟩ = some v) : b < w.heap.size := by
  rcases Nat.lt_or_ge b w.heap.size with h' | h'
  · exact h'
  · simp [World.cell?, Array.getElem?_eq_none h'] at h

section
variable {H : Type} {enc : TypeId × Value → H} {w : World}

theorem strs_cell {fuel : Nat} {v : Value} {x : DataW H × List MemPlace} (h : DataW.trod enc Try.prog w 0 (fun _ => true) true fuel 23 [v] = some x) :
    ∃ a n c l, v = .slice a n c ∧ StrsIn w w.heap.size a n l := by
  rcases open_strings Try.underlying23 Try.underlying9 Try.cells9 h with ⟨hcs, _⟩ | ⟨x, len, cap, ss, hcs, _, hl, hm, hz, _, hcell, hws⟩
  · simp only [List.cons.injEq, and_true] at hcs
    exact ⟨none, 0, 0, fun _ => ByteArray.empty, hcs, ⟨by unfold maxLen; omega, fun i hi => by omega, fun h => by omega⟩⟩
  · simp only [List.cons.injEq, and_true] at hcs
    simp only [if_true] at hz
    refine ⟨some x, len, cap, fun i => ss.getD i ByteArray.empty, hcs, ⟨by omega, fun i hi => ?_, fun hp => ?_⟩⟩
    · refine hws _ ?_
      rw [List.getD_eq_getElem?_getD, List.getElem?_eq_getElem (by omega)]
      exact List.getElem_mem _
    · obtain ⟨b, off, sp⟩ := x
      have hsp : sp = none := by simpa [Addr.add] using World.cell?_spot (hcell 0 (by omega))
      subst hsp
      have hc' : ∀ i, i < len → w.cell? ⟨b, off + i, none⟩ = some (.string (ss.getD i ByteArray.empty)) := fun i hi => by
        rw [← Addr.add_lit]; exact hcell i (by omega)
      exact ⟨b, off, rfl, cell_lt (hc' 0 hp), hc'⟩

theorem ints_cell {fuel : Nat} {v : Value} {x : DataW H × List MemPlace} (h : DataW.trod enc Try.prog w 0 (fun _ => true) true fuel 24 [v] = some x) :
    ∃ a n c f, v = .slice a n c ∧ IntsIn w w.heap.size a n f := by
  rcases open_ints Try.underlying24 Try.underlying3 Try.cells3 h with ⟨hcs, _⟩ | ⟨x, len, cap, zs, hcs, _, hl, hm, hz, _, hcell, hws⟩
  · simp only [List.cons.injEq, and_true] at hcs
    exact ⟨none, 0, 0, fun _ => 0, hcs, ⟨by unfold maxLen; omega, fun h => by omega⟩⟩
  · simp only [List.cons.injEq, and_true] at hcs
    simp only [if_true] at hz
    refine ⟨some x, len, cap, fun i => zs.getD i 0, hcs, ⟨by omega, fun hp => ?_⟩⟩
    obtain ⟨b, off, sp⟩ := x
    have hsp : sp = none := by simpa [Addr.add] using World.cell?_spot (hcell 0 (by omega))
    subst hsp
    have hc' : ∀ i, i < len → w.cell? ⟨b, off + i, none⟩ = some (.int .i64 (zs.getD i 0)) := fun i hi => by
      rw [← Addr.add_lit]; exact hcell i (by omega)
    exact ⟨b, off, rfl, cell_lt (hc' 0 hp), hc'⟩

theorem rows_cell {fuel : Nat} {v : Value} {x : DataW H × List MemPlace} (h : DataW.trod enc Try.prog w 0 (fun _ => true) true fuel 22 [v] = some x) :
    ∃ a n c A L C l, v = .slice a n c ∧ RowsIn w w.heap.size a n A L C l := by
  rcases open_slice1 Try.underlying22 Try.cells23 h with ⟨hcs, _⟩ | ⟨x, len, cap, m, k, V, D, Pl, hcs, _, hl, hm, hmm, _, hx⟩
  · simp only [List.cons.injEq, and_true] at hcs
    exact ⟨none, 0, 0, fun _ => none, fun _ => 0, fun _ => 0, fun _ _ => ByteArray.empty, hcs, ⟨by unfold maxLen; omega, fun h => by omega, fun i hi => by omega⟩⟩
  · simp only [List.cons.injEq, and_true] at hcs
    simp only [if_true] at hmm
    obtain ⟨Q, hQ⟩ := choose_lt (α := Option Addr × Nat × Nat × (Nat → ByteArray)) (n := len) (p := fun i q => V i = .slice q.1 q.2.1 q.2.2.1 ∧ StrsIn w w.heap.size q.1 q.2.1 q.2.2.2) (fun i hi => by
      obtain ⟨a, n, c, l, h1, h2⟩ := strs_cell (hx i (by omega)).2
      exact ⟨(a, n, c, l), h1, h2⟩)
    refine ⟨some x, len, cap, fun i => (Q i).1, fun i => (Q i).2.1, fun i => (Q i).2.2.1, fun i => (Q i).2.2.2, hcs, ⟨by omega, fun hp => ?_, fun i hi => (hQ i hi).2⟩⟩
    obtain ⟨b, off, sp⟩ := x
    have hsp : sp = none := by simpa [Addr.add] using World.cell?_spot (hx 0 (by omega)).1
    subst hsp
    have hc' : ∀ i, i < len → w.cell? ⟨b, off + i, none⟩ = some (.slice (Q i).1 (Q i).2.1 (Q i).2.2.1) := fun i hi => by
      rw [← Addr.add_lit, ← (hQ i hi).1]; exact (hx i (by omega)).1
    exact ⟨b, off, rfl, cell_lt (hc' 0 hp), hc'⟩
end

end Go.Proofs.Qxb6630001a
