/-
  SEAT b6630050aD: from what an argument reads as to what the walks are told of it; a start that fits; the listed table.
-/
import Derived.Test.Qxb6630050aDoorRows
import Derived.Test.Qxb6630050aDoorParts
import Derived.ProofKit
import Derived.OpenShut
import Derived.ShutString
import Derived.ChangeOld
import Derived.Below
import Derived.Deep.Slices
import Derived.Deep.Strs
import Derived.Lib.SmallJoins
import Derived.Lib.LaidTab
import Derived.Lib.AppendIntMem
import Derived.LaidLaws
import Derived.LaidHandle
import Derived.LaidSub
namespace Go.Proofs.Qxb6630050aDoor
open Go.ChangeShapes Go.WideShapes Go.ChangeAt Go.RowKit
open Go.Deep (choose_lt open_slice)

theorem own : ownKnob Tryd.prog.godebug = none := by kernel_rfl
theorem laidOut : laidOutB Tryd.prog = true := by kernel_rfl
theorem cells24 : Tryd.prog.cellsOf 24 = 3 := by kernel_rfl
theorem cells4 : Tryd.prog.cellsOf 4 = 1 := by kernel_rfl
theorem cells9 : Tryd.prog.cellsOf 9 = 1 := by kernel_rfl
theorem cells3 : Tryd.prog.cellsOf 3 = 1 := by kernel_rfl
theorem gPow : Tryd.prog.globalNamed "internal/strconv.uint64pow10" = some 0 := by kernel_rfl
theorem gPowType : (Tryd.prog.globals[0]?).map (·.type) = some 64 := by kernel_rfl

theorem cell_lt {w : World} {b o : Nat} {v : Value} (h : w.cell? ⟨b, o, none⟩ = some v) : b < w.heap.size := by
  rcases Nat.lt_or_ge b w.heap.size with h' | h'
  · exact h'
  · simp [World.cell?, Array.getElem?_eq_none h'] at h

/-- The listed table, out of the row's condition. -/
theorem tab_of {W : World} (h : laidMet Tryd.prog Rows.fnStringOneStepFurtherRow.laid W) : Lib.TabIs Tryd.prog W "internal/strconv.uint64pow10" .u64 Lib.pow10Tab := by
  have h' : laidMet Tryd.prog [("internal/strconv.uint64pow10", Lib.tabData .u64 Lib.pow10Tab)] W := h.filter (fun x => x.1 == "internal/strconv.uint64pow10")
  exact Lib.tabIs_of_head gPow gPowType Tryd.underlying64 Tryd.underlying52 (by kernel_rfl) (by kernel_rfl) h'

/-- A list of numbers as cells. -/
def litCells : DataW Unit → Array Value
  | .agg l => (l.map fun | .lit (.int k z) => Value.int k z | _ => Value.bool false).toArray
  | _ => #[]
def layAt (i : Nat) (d : DataW Unit) (h : Array Obj) : Array Obj := h.modify i fun
  | .cells _ t frozen => .cells (litCells d) t frozen
  | o => o
/-- The settled world, the three tables as their initialisers lay them: the witness. -/
noncomputable def laidWorld (os : Os) : World :=
  { World.holding Tryd.prog os ⟨#[], #[], []⟩ with heap := layAt 2 Rows.laid_math_bits_deBruijn64tab (layAt 1 Rows.laid_math_bits_deBruijn32tab (layAt 0 Rows.laid_internal_strconv_uint64pow10 (World.holding Tryd.prog os ⟨#[], #[], []⟩).heap)) }
set_option maxRecDepth 100000 in
theorem laid_met (os : Os) (args : Array Value) : laidMet Tryd.prog Rows.fnStringOneStepFurtherRow.laid ((laidWorld os).forCall (fun _ _ => 0) ⟨#[], args, []⟩).memory :=
  laidMet_of_run' 8 (by kernel_rfl) (by kernel_rfl)

instance : Inhabited Stp := ⟨⟨false, ByteArray.empty, 0⟩⟩

section
variable {H : Type} {enc : TypeId × Value → H} {w : World}

theorem stp_of {fuel : Nat} {c0 c1 c2 : Value} {y0 y1 y2 : DataW H × List MemPlace} (h0 : DataW.trod enc Tryd.prog w 0 (fun _ => true) true fuel 4 [c0] = some y0) (h1 : DataW.trod enc Tryd.prog w 0 (fun _ => true) true fuel 9 [c1] = some y1)
    (h2 : DataW.trod enc Tryd.prog w 0 (fun _ => true) true fuel 3 [c2] = some y2) : ∃ s : Stp, StpOk s ∧ c0 = .bool s.el ∧ c1 = .string s.name ∧ c2 = .int .i64 s.idx := by
  obtain ⟨b, e0, _⟩ := DataW.trod_bool Tryd.underlying4 h0
  obtain ⟨nm, e1, _, hz⟩ := DataW.trod_string Tryd.underlying9 h1
  obtain ⟨z, e2, _, hw⟩ := DataW.trod_int Tryd.underlying3 h2
  simp only [List.cons.injEq, and_true] at e0 e1 e2
  have m1 : IntKind.i64.min = -9223372036854775808 := rfl
  have m2 : IntKind.i64.max = 9223372036854775807 := rfl
  simp [Lit.wf, m1, m2] at hw
  exact ⟨⟨b, nm, z⟩, ⟨hz, hw.1, hw.2⟩, e0, e1, e2⟩

theorem steps_cell {fuel : Nat} {v : Value} {x : DataW H × List MemPlace} (h : DataW.trod enc Tryd.prog w 0 (fun _ => true) true fuel 22 [v] = some x) :
    ∃ a n c f, v = .slice a n c ∧ StepsIn w w.heap.size a n f := by
  rcases open_slice Tryd.underlying22 h with ⟨hcs, _⟩ | ⟨x, len, cap, m, k, D, Pl, hcs, _, hl, hm, hmm, _, hx⟩
  · simp only [List.cons.injEq, and_true] at hcs
    exact ⟨none, 0, 0, fun _ => ⟨false, ByteArray.empty, 0⟩, hcs, ⟨by unfold maxLen; omega, fun i hi => by omega, fun h => by omega⟩⟩
  · simp only [List.cons.injEq, and_true] at hcs
    simp only [if_true] at hmm
    rw [cells24] at hx
    obtain ⟨F, hF⟩ := choose_lt (α := Stp) (n := len) (p := fun i s => StpOk s ∧ w.cell? ((x.add (i * 3)).add 0) = some (.bool s.el) ∧ w.cell? ((x.add (i * 3)).add 1) = some (.string s.name) ∧ w.cell? ((x.add (i * 3)).add 2) = some (.int .i64 s.idx)) (fun i hi => by
      obtain ⟨cs, h1, h2⟩ := hx i (by omega)
      obtain ⟨_, hlen, hc⟩ := World.cells?_some h1
      obtain ⟨y0, y1, y2, n, _, _, t0, t1, t2⟩ := Go.Deep.trod_struct3 Tryd.underlying24 h2
      match cs, hlen with
      | [c0, c1, c2], _ =>
        simp only [cells4, cells9, cells3] at t0 t1 t2
        obtain ⟨s, hs, e0, e1, e2⟩ := stp_of (by simpa using t0) (by simpa using t1) (by simpa using t2)
        subst e0 e1 e2
        exact ⟨s, hs, by simpa using hc 0 (by omega), by simpa using hc 1 (by omega), by simpa using hc 2 (by omega)⟩)
    refine ⟨some x, len, cap, F, hcs, ⟨by omega, fun i hi => (hF i hi).1, fun hp => ?_⟩⟩
    obtain ⟨b, off, sp⟩ := x
    have hsp : sp = none := by simpa [Addr.add] using World.cell?_spot (hF 0 hp).2.1
    subst hsp
    have hc' : ∀ i, i < len → w.cell? ⟨b, off + i * 3, none⟩ = some (.bool (F i).el) ∧ w.cell? ⟨b, off + i * 3 + 1, none⟩ = some (.string (F i).name) ∧ w.cell? ⟨b, off + i * 3 + 2, none⟩ = some (.int .i64 (F i).idx) := fun i hi => by
      have h := (hF i hi).2
      simp only [Addr.add_lit, Nat.add_zero] at h
      exact h
    exact ⟨b, off, rfl, cell_lt (hc' 0 hp).1, hc'⟩
end

end Go.Proofs.Qxb6630050aDoor
