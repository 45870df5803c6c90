/-
  SEAT b6630001a: what the walks carry of memory: strings, numbers and rows of strings that are read. No loaded program.
-/
import Derived.WalkKit
import Derived.Deep.QuietTactic
import Derived.BigQuiet
import Derived.RegionTactic
namespace Go.Proofs.Qxb6630001a
open Go.RowKit

theorem hide {p : Prop} (h : p) : Hid p := h
theorem unhide {p : Prop} (h : Hid p) : p := h

/-- A slice of n strings l 0, l 1, .. at address a, below block B. -/
structure StrsIn (w : World) (B : Nat) (a : Option Addr) (n : Nat) (l : Nat → ByteArray) : Prop where
  len : n ≤ maxLen
  str : ∀ i, i < n → (l i).size ≤ maxLen
  row : 0 < n → ∃ b off, a = some ⟨b, off, none⟩ ∧ b < B ∧ ∀ i, i < n → w.cell? ⟨b, off + i, none⟩ = some (.string (l i))

/-- A slice of n ints f 0, f 1, .. at address a, below block B. -/
structure IntsIn (w : World) (B : Nat) (a : Option Addr) (n : Nat) (f : Nat → Int) : Prop where
  len : n ≤ maxLen
  row : 0 < n → ∃ b off, a = some ⟨b, off, none⟩ ∧ b < B ∧ ∀ i, i < n → w.cell? ⟨b, off + i, none⟩ = some (.int .i64 (f i))

/-- A slice of n slices of strings: row i lies at A i, of length L i, of capacity C i, its strings l i 0, l i 1, .. -/
structure RowsIn (w : World) (B : Nat) (a : Option Addr) (n : Nat) (A : Nat → Option Addr) (L C : Nat → Nat) (l : Nat → Nat → ByteArray) : Prop where
  len : n ≤ maxLen
  row : 0 < n → ∃ b off, a = some ⟨b, off, none⟩ ∧ b < B ∧ ∀ i, i < n → w.cell? ⟨b, off + i, none⟩ = some (.slice (A i) (L i) (C i))
  each : ∀ i, i < n → StrsIn w B (A i) (L i) (l i)

theorem StrsIn.below {w w' : World} {B B' : Nat} {a : Option Addr} {n : Nat} {l : Nat → ByteArray} (h : StrsIn w B a n l) (hb : Below B' w w') (hB : B ≤ B') : StrsIn w' B a n l :=
  ⟨h.len, h.str, fun hn => by
    obtain ⟨b, off, h1, h2, h3⟩ := h.row hn
    exact ⟨b, off, h1, h2, fun i hi => (hb.cell (p := ⟨b, off + i, none⟩) (by show b < B'; omega)).trans (h3 i hi)⟩⟩
theorem IntsIn.below {w w' : World} {B B' : Nat} {a : Option Addr} {n : Nat} {f : Nat → Int} (h : IntsIn w B a n f) (hb : Below B' w w') (hB : B ≤ B') : IntsIn w' B a n f :=
  ⟨h.len, fun hn => by
    obtain ⟨b, off, h1, h2, h3⟩ := h.row hn
    exact ⟨b, off, h1, h2, fun i hi => (hb.cell (p := ⟨b, off + i, none⟩) (by show b < B'; omega)).trans (h3 i hi)⟩⟩
theorem RowsIn.below {w w' : World} {B B' : Nat} {a : Option Addr} {n : Nat} {A : Nat → Option Addr} {L C : Nat → Nat} {l : Nat → Nat → ByteArray} (h : RowsIn w B a n A L C l) (hb : Below B' w w') (hB : B ≤ B') : RowsIn w' B a n A L C l :=
  ⟨h.len, fun hn => by
    obtain ⟨b, off, h1, h2, h3⟩ := h.row hn
    exact ⟨b, off, h1, h2, fun i hi => (hb.cell (p := ⟨b, off + i, none⟩) (by show b < B'; omega)).trans (h3 i hi)⟩,
   fun i hi => (h.each i hi).below hb hB⟩
theorem StrsIn.mono {w : World} {B B' : Nat} {a : Option Addr} {n : Nat} {l : Nat → ByteArray} (h : StrsIn w B a n l) (hB : B ≤ B') : StrsIn w B' a n l :=
  ⟨h.len, h.str, fun hn => by
    obtain ⟨b, off, h1, h2, h3⟩ := h.row hn
    exact ⟨b, off, h1, by omega, h3⟩⟩
theorem IntsIn.mono {w : World} {B B' : Nat} {a : Option Addr} {n : Nat} {f : Nat → Int} (h : IntsIn w B a n f) (hB : B ≤ B') : IntsIn w B' a n f :=
  ⟨h.len, fun hn => by
    obtain ⟨b, off, h1, h2, h3⟩ := h.row hn
    exact ⟨b, off, h1, by omega, h3⟩⟩
theorem RowsIn.mono {w : World} {B B' : Nat} {a : Option Addr} {n : Nat} {A : Nat → Option Addr} {L C : Nat → Nat} {l : Nat → Nat → ByteArray} (h : RowsIn w B a n A L C l) (hB : B ≤ B') : RowsIn w B' a n A L C l :=
  ⟨h.len, fun hn => by
    obtain ⟨b, off, h1, h2, h3⟩ := h.row hn
    exact ⟨b, off, h1, by omega, h3⟩, fun i hi => (h.each i hi).mono hB⟩

end Go.Proofs.Qxb6630001a
