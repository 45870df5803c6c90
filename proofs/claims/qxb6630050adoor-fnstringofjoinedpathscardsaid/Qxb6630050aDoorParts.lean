/-
  SEAT b6630050aD: what the walks carry of memory: steps that are read; paths. No loaded program.
-/
import Derived.WalkKit
import Derived.Deep.QuietTactic
import Derived.BigQuiet
import Derived.RegionTactic
import Derived.Lib.ItoaMem
namespace Go.Proofs.Qxb6630050aDoor
open Go.RowKit

theorem hide {p : Prop} (h : p) : Hid p := h
theorem unhide {p : Prop} (h : Hid p) : p := h
theorem ret_int {k : IntKind} {a b : Int} (h : a = b) : Ending.returned (.int k a) = .returned (.int k b) := by rw [h]
theorem below_drewN {B : Nat} {a w : World} (h : Below B a w) (n : Nat) : Below B a (w.drewN n) := ⟨h.os, h.tape, h.output, h.size, h.block⟩

/-- One step of a path. -/
structure Stp where
  el : Bool
  name : ByteArray
  idx : Int

/-- A step whose parts a Go value can hold. -/
structure StpOk (s : Stp) : Prop where
  name : s.name.size ≤ maxLen
  lo : -9223372036854775808 ≤ s.idx
  hi : s.idx ≤ 9223372036854775807

/-- A slice of n steps f 0, f 1, .. at address a, below block B. -/
structure StepsIn (w : World) (B : Nat) (a : Option Addr) (n : Nat) (f : Nat → Stp) : Prop where
  len : n ≤ maxLen
  ok : ∀ i, i < n → StpOk (f i)
  row : 0 < n → ∃ b off, a = some ⟨b, off, none⟩ ∧ b < B ∧ ∀ i, i < n → w.cell? ⟨b, off + i * 3, none⟩ = some (.bool (f i).el) ∧ w.cell? ⟨b, off + i * 3 + 1, none⟩ = some (.string (f i).name) ∧ w.cell? ⟨b, off + i * 3 + 2, none⟩ = some (.int .i64 (f i).idx)

theorem StepsIn.below {w w' : World} {B B' : Nat} {a : Option Addr} {n : Nat} {f : Nat → Stp} (h : StepsIn w B a n f) (hb : Below B' w w') (hB : B ≤ B') : StepsIn w' B a n f :=
  ⟨h.len, h.ok, fun hn => by
    obtain ⟨b, off, h1, h2, h3⟩ := h.row hn
    have hb' : b < B' := by omega
    exact ⟨b, off, h1, h2, fun i hi => ⟨(hb.cell (p := ⟨b, off + i * 3, none⟩) hb').trans (h3 i hi).1, (hb.cell (p := ⟨b, off + i * 3 + 1, none⟩) hb').trans (h3 i hi).2.1, (hb.cell (p := ⟨b, off + i * 3 + 2, none⟩) hb').trans (h3 i hi).2.2⟩⟩⟩
theorem StepsIn.mono {w : World} {B B' : Nat} {a : Option Addr} {n : Nat} {f : Nat → Stp} (h : StepsIn w B a n f) (hB : B ≤ B') : StepsIn w B' a n f :=
  ⟨h.len, h.ok, fun hn => by
    obtain ⟨b, off, h1, h2, h3⟩ := h.row hn
    exact ⟨b, off, h1, by omega, h3⟩⟩

/-- The pointer to the path of the first k steps, whose nodes lie in blocks bk 0, bk 1, .. -/
def ptrTo (bk : Nat → Nat) (k : Nat) : Option Addr := if k = 0 then none else some ⟨bk (k - 1), 0, none⟩
theorem ptrTo_zero (bk : Nat → Nat) : ptrTo bk 0 = none := rfl
theorem ptrTo_succ (bk : Nat → Nat) (k : Nat) : ptrTo bk (k + 1) = some ⟨bk k, 0, none⟩ := by simp [ptrTo]
theorem ptrTo_congr {bk bk' : Nat → Nat} {k : Nat} (h : ∀ i, i < k → bk i = bk' i) : ptrTo bk k = ptrTo bk' k := by
  unfold ptrTo
  by_cases e : k = 0
  · simp [e]
  · rw [if_neg e, if_neg e, h (k - 1) (by omega)]

/-- The node of step i. -/
structure NodeAt (w : World) (B : Nat) (bk : Nat → Nat) (sp : Nat → Stp) (i : Nat) : Prop where
  lt : bk i < B
  up : w.cell? ⟨bk i, 0, none⟩ = some (.pointer (ptrTo bk i))
  el : w.cell? ⟨bk i, 1, none⟩ = some (.bool (sp i).el)
  name : w.cell? ⟨bk i, 2, none⟩ = some (.string (sp i).name)
  idx : w.cell? ⟨bk i, 3, none⟩ = some (.int .i64 (sp i).idx)

/-- A path of N steps. -/
def PathAt (w : World) (B : Nat) (bk : Nat → Nat) (sp : Nat → Stp) (N : Nat) : Prop := ∀ i, i < N → NodeAt w B bk sp i

theorem NodeAt.below {w w' : World} {B B' : Nat} {bk : Nat → Nat} {sp : Nat → Stp} {i : Nat} (h : NodeAt w B bk sp i) (hb : Below B' w w') (hB : B ≤ B') : NodeAt w' B bk sp i := by
  have hl : bk i < B' := by have := h.lt; omega
  exact ⟨h.lt, (hb.cell (p := ⟨bk i, 0, none⟩) hl).trans h.up, (hb.cell (p := ⟨bk i, 1, none⟩) hl).trans h.el, (hb.cell (p := ⟨bk i, 2, none⟩) hl).trans h.name, (hb.cell (p := ⟨bk i, 3, none⟩) hl).trans h.idx⟩
theorem NodeAt.mono {w : World} {B B' : Nat} {bk : Nat → Nat} {sp : Nat → Stp} {i : Nat} (h : NodeAt w B bk sp i) (hB : B ≤ B') : NodeAt w B' bk sp i :=
  ⟨Nat.lt_of_lt_of_le h.lt hB, h.up, h.el, h.name, h.idx⟩
theorem PathAt.below {w w' : World} {B B' : Nat} {bk : Nat → Nat} {sp : Nat → Stp} {N : Nat} (h : PathAt w B bk sp N) (hb : Below B' w w') (hB : B ≤ B') : PathAt w' B bk sp N := fun i hi => (h i hi).below hb hB
theorem PathAt.mono {w : World} {B B' : Nat} {bk : Nat → Nat} {sp : Nat → Stp} {N : Nat} (h : PathAt w B bk sp N) (hB : B ≤ B') : PathAt w B' bk sp N := fun i hi => (h i hi).mono hB
theorem PathAt.zero (w : World) (B : Nat) (bk : Nat → Nat) (sp : Nat → Stp) : PathAt w B bk sp 0 := fun i hi => by omega

/-- One node more: the new block w.heap.size. -/
def snocB (bk : Nat → Nat) (k b : Nat) : Nat → Nat := fun i => if i = k then b else bk i
def snocS (sp : Nat → Stp) (k : Nat) (s : Stp) : Nat → Stp := fun i => if i = k then s else sp i

theorem PathAt.snoc {w w' : World} {B : Nat} {bk : Nat → Nat} {sp : Nat → Stp} {k : Nat} {s : Stp} {b : Nat} (h : PathAt w B bk sp k) (hb : Below B w w') (hbB : b < w'.heap.size) (hB : B ≤ w'.heap.size)
    (c0 : w'.cell? ⟨b, 0, none⟩ = some (.pointer (ptrTo bk k))) (c1 : w'.cell? ⟨b, 1, none⟩ = some (.bool s.el)) (c2 : w'.cell? ⟨b, 2, none⟩ = some (.string s.name)) (c3 : w'.cell? ⟨b, 3, none⟩ = some (.int .i64 s.idx)) :
    PathAt w' w'.heap.size (snocB bk k b) (snocS sp k s) (k + 1) := by
  intro i hi
  by_cases e : i = k
  · subst e
    have e1 : snocB bk i b i = b := by simp [snocB]
    have e2 : snocS sp i s i = s := by simp [snocS]
    have e3 : ptrTo (snocB bk i b) i = ptrTo bk i := ptrTo_congr (fun j hj => by simp [snocB]; omega)
    exact ⟨by rw [e1]; exact hbB, by rw [e1, e3]; exact c0, by rw [e1, e2]; exact c1, by rw [e1, e2]; exact c2, by rw [e1, e2]; exact c3⟩
  · have hn := ((h i (by omega)).below hb (Nat.le_refl _)).mono hB
    have e1 : snocB bk k b i = bk i := by simp [snocB, e]
    have e2 : snocS sp k s i = sp i := by simp [snocS, e]
    have e3 : ptrTo (snocB bk k b) i = ptrTo bk i := ptrTo_congr (fun j hj => by simp [snocB]; omega)
    exact ⟨by rw [e1]; exact hn.lt, by rw [e1, e3]; exact hn.up, by rw [e1, e2]; exact hn.el, by rw [e1, e2]; exact hn.name, by rw [e1, e2]; exact hn.idx⟩

/-- It returned some bool. -/
def SomeBool (e : Ending) : Prop := ∃ r : Bool, e = .returned (.bool r)
theorem SomeBool.mk (r : Bool) : SomeBool (.returned (.bool r)) := ⟨r, rfl⟩

/-- The sum of the first k numbers. -/
def sumN (f : Nat → Nat) : Nat → Nat
  | 0 => 0
  | k + 1 => sumN f k + f k
theorem sumN_mono (f : Nat → Nat) {a b : Nat} (h : a ≤ b) : sumN f a ≤ sumN f b := by
  induction b with
  | zero => have : a = 0 := by omega
            subst this; exact Nat.le_refl _
  | succ b ih =>
    rcases Nat.lt_or_ge a (b + 1) with h' | h'
    · have := ih (by omega); simp only [sumN]; omega
    · have : a = b + 1 := by omega
      subst this; exact Nat.le_refl _
theorem sumN_le (f : Nat → Nat) {k n : Nat} (h : k < n) : sumN f k + f k ≤ sumN f n := sumN_mono f (a := k + 1) h

end Go.Proofs.Qxb6630050aDoor
