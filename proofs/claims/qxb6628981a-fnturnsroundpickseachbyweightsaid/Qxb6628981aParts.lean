/-
  SEAT b6628981a: rows of numbers in memory, seen as functions: what the walks carry of the world. No loaded program.
-/
import Derived.Test.Qxb6628981aMath
import Derived.WalkKit
import Derived.Deep.QuietTactic
import Derived.BigQuiet
namespace Go.Proofs.Qxb6628981a
open Go.RowKit Swrr

theorem hide {p : Prop} (h : p) : Hid p := h
theorem unhide {p : Prop} (h : Hid p) : p := h

/-- Block b is a row of n numbers f 0, f 1, .. -/
def Blk (w : World) (b n : Nat) (t : TypeId) (f : Nat → Int) : Prop :=
  w.heap[b]? = some (.cells ((List.range n).map fun i => Value.int .i64 (f i)).toArray t (0, 0))

theorem Blk.cell {w : World} {b n : Nat} {t : TypeId} {f : Nat → Int} (h : Blk w b n t f) (i : Nat) (hi : i < n) : w.cell? ⟨b, i, none⟩ = some (.int .i64 (f i)) := by
  unfold Blk at h
  simp [World.cell?, h, hi]

theorem Blk.free {w : World} {b n : Nat} {t : TypeId} {f : Nat → Int} (h : Blk w b n t f) (i : Nat) : w.frozen? ⟨b, i, none⟩ = false := by
  unfold Blk at h
  simp [World.frozen?, h]

theorem Blk.lt {w : World} {b n : Nat} {t : TypeId} {f : Nat → Int} (h : Blk w b n t f) : b < w.heap.size := lt_of_block h

theorem Blk.congr {w : World} {b n : Nat} {t : TypeId} {f g : Nat → Int} (h : Blk w b n t f) (hfg : ∀ i, i < n → f i = g i) : Blk w b n t g := by
  unfold Blk at h ⊢
  rw [h]
  have : (List.range n).map (fun i => Value.int .i64 (f i)) = (List.range n).map (fun i => Value.int .i64 (g i)) := by
    apply List.map_congr_left
    intro i hi
    rw [hfg i (by simpa using hi)]
  rw [this]

theorem Blk.set {w : World} {b n : Nat} {t : TypeId} {f : Nat → Int} (h : Blk w b n t f) (p : Nat) (v : Int) : Blk (w.setCell ⟨b, p, none⟩ (.int .i64 v)) b n t (upd f p v) := by
  have hlt := h.lt
  unfold Blk at h ⊢
  have h' : w.heap[b] = .cells ((List.range n).map fun i => Value.int .i64 (f i)).toArray t (0, 0) := by simpa [Array.getElem?_eq_getElem hlt] using h
  show (w.heap.modify b _)[b]? = _
  rw [Array.getElem?_eq_getElem (by simpa using hlt), Array.getElem_modify_self, h']
  simp only [Option.isSome_none, Bool.false_eq_true, if_false, Option.some.injEq, Obj.cells.injEq, and_true]
  apply Array.ext
  · simp
  · intro i h1 h2
    simp only [List.setIfInBounds_toArray, List.size_toArray, List.length_set, List.length_map, List.length_range] at h1
    simp only [List.setIfInBounds_toArray, List.getElem_toArray, List.getElem_set, List.getElem_map, List.getElem_range, upd]
    by_cases e : p = i
    · subst e; simp
    · have e' : ¬ i = p := fun x => e x.symm
      simp [e, e']

/-- The world w' is w, but for block b, whose cells may have been written (and for draws). -/
structure Turned (b : Nat) (w w' : World) : Prop where
  os : w'.os = w.os
  tape : w'.tape = w.tape
  output : w'.output = w.output
  size : w'.heap.size = w.heap.size
  block : ∀ k, k ≠ b → w'.heap[k]? = w.heap[k]?

theorem Turned.refl (b : Nat) (w : World) : Turned b w w := ⟨rfl, rfl, rfl, rfl, fun _ _ => rfl⟩
theorem Turned.drew {b : Nat} {a w : World} (h : Turned b a w) : Turned b a w.drew := ⟨h.os, h.tape, h.output, h.size, h.block⟩
theorem Turned.drewN {b : Nat} {a w : World} (h : Turned b a w) (n : Nat) : Turned b a (w.drewN n) := ⟨h.os, h.tape, h.output, h.size, h.block⟩
theorem Turned.setCell {b : Nat} {a w : World} (h : Turned b a w) (p : Nat) (u : Value) : Turned b a (w.setCell ⟨b, p, none⟩ u) :=
  ⟨h.os, h.tape, h.output, by simpa using h.size, fun k hk => by rw [Below.heap_setCell _ _ _ _ (by simpa using hk)]; exact h.block k hk⟩
theorem Turned.trans {b : Nat} {x y z : World} (h : Turned b x y) (k : Turned b y z) : Turned b x z :=
  ⟨k.os.trans h.os, k.tape.trans h.tape, k.output.trans h.output, k.size.trans h.size, fun i hi => (k.block i hi).trans (h.block i hi)⟩
theorem Turned.cell {b : Nat} {w w' : World} (h : Turned b w w') {p : Addr} (hp : p.block ≠ b) : w'.cell? p = w.cell? p := World.cell?_of_block (w := w) (h.block p.block hp)
theorem Turned.frozen {b : Nat} {w w' : World} (h : Turned b w w') {p : Addr} (hp : p.block ≠ b) : w'.frozen? p = w.frozen? p := World.frozen?_of_block (w := w) (h.block p.block hp)
theorem Turned.blk {b : Nat} {w w' : World} (h : Turned b w w') {c n : Nat} {t : TypeId} {f : Nat → Int} (hc : c ≠ b) (k : Blk w c n t f) : Blk w' c n t f := by
  unfold Blk at k ⊢; rw [h.block c hc]; exact k
theorem Turned.below {b B : Nat} {a w w' : World} (h : Turned b w w') (hb : B ≤ b) (k : Below B a w) : Below B a w' :=
  k.trans ⟨h.os, h.tape, h.output, by rw [h.size]; exact Nat.le_refl _, fun i hi => h.block i (by omega)⟩

theorem Blk.drew {w : World} {b n : Nat} {t : TypeId} {f : Nat → Int} (h : Blk w b n t f) : Blk w.drew b n t f := h
theorem Blk.drewN {w : World} {b n : Nat} {t : TypeId} {f : Nat → Int} (h : Blk w b n t f) (q : Nat) : Blk (w.drewN q) b n t f := h
theorem Blk.set_other {w : World} {b n : Nat} {t : TypeId} {f : Nat → Int} (h : Blk w b n t f) (p : Addr) (hp : b ≠ p.block) (u : Value) : Blk (w.setCell p u) b n t f := by
  unfold Blk at h ⊢; rw [Below.heap_setCell _ _ _ _ hp]; exact h
theorem Blk.alloc {w : World} {b n : Nat} {t : TypeId} {f : Nat → Int} (h : Blk w b n t f) (o : Obj) : Blk (w.alloc o) b n t f := by
  have := h.lt
  unfold Blk at h ⊢; rw [Below.heap_alloc _ _ _ this]; exact h
theorem Blk.grown {w w' : World} {b n : Nat} {t : TypeId} {f : Nat → Int} (h : Blk w b n t f) (hg : w.grownBy w' none) : Blk w' b n t f := by
  have := h.lt
  unfold Blk at h ⊢; rw [hg.block b this (by simp)]; exact h

/-- What 'make([]T, n)' leaves: a row of zeroes. -/
theorem blk_made {w' : World} {base g n : Nat} {t : TypeId} (h : w'.ownsRow base t 1 (.slice (some ⟨g, 0, none⟩) n n) n (madeCells (Value.int .i64 0).cells (n * 1)).toList) : Blk w' g n t (fun _ => 0) := by
  obtain ⟨_, h2⟩ := h
  rcases h2 with ⟨h2, _⟩ | ⟨g', cap, cur, hv, _, hh, _, _, hs, hc⟩
  · simp at h2
  · simp only [Value.slice.injEq, Option.some.injEq, Addr.mk.injEq, and_true] at hv
    obtain ⟨rfl, _, rfl⟩ := hv
    unfold Blk
    rw [hh]
    simp only [Option.some.injEq, Obj.cells.injEq, and_true]
    have : cur.toList = (List.range n).map fun _ => Value.int .i64 0 := by
      rw [List.take_of_length_le (by simpa using Nat.le_of_eq hs)] at hc
      rw [hc]
      apply List.ext_getElem
      · simp [madeCells]
      · intro i h1 h2
        simp [madeCells, Value.cells, Nat.mod_one]
    rw [← this]

end Go.Proofs.Qxb6628981a
