/-
  SEAT b6630050aD: what a path is written as. No Go in sight.
-/
import Derived.Test.Qxb6630050aDoorParts
import Derived.Lib.ItoaNum
namespace Go.Proofs.Qxb6630050aDoor

/-- One step more, written behind acc. -/
def stepText (acc : List UInt8) (s : Stp) : List UInt8 :=
  if s.el then acc ++ [91] ++ Lib.itoa s.idx ++ [93] else if acc.isEmpty then s.name.data.toList else acc ++ [46] ++ s.name.data.toList

/-- The first k steps, written. -/
def textN (sp : Nat → Stp) : Nat → List UInt8
  | 0 => []
  | k + 1 => stepText (textN sp k) (sp k)

/-- A list of steps' numbers, written. -/
def textL {N : Nat} (sp : Nat → Stp) (pre : List (Fin N)) : List UInt8 := pre.foldl (fun acc j => stepText acc (sp j.1)) []
theorem textL_snoc {N : Nat} (sp : Nat → Stp) (pre : List (Fin N)) (x : Fin N) : textL sp (pre ++ [x]) = stepText (textL sp pre) (sp x.1) := by simp [textL]

theorem textL_take (sp : Nat → Stp) (N : Nat) : ∀ k, k ≤ N → textL sp ((List.finRange N).take k) = textN sp k
  | 0, _ => by simp [textL, textN]
  | k + 1, h => by
    have e : (List.finRange N).take (k + 1) = (List.finRange N).take k ++ [⟨k, h⟩] := by
      rw [List.take_succ_eq_append_getElem (by simp; omega)]; simp
    rw [e, textL_snoc, textL_take sp N k (by omega)]; rfl
theorem textL_all (sp : Nat → Stp) (N : Nat) : textL sp (List.finRange N) = textN sp N := by
  have := textL_take sp N N (Nat.le_refl _)
  rwa [List.take_of_length_le (by simp)] at this

theorem textN_congr {sp sp' : Nat → Stp} : ∀ k, (∀ i, i < k → sp i = sp' i) → textN sp k = textN sp' k
  | 0, _ => rfl
  | k + 1, h => by rw [textN, textN, textN_congr k (fun i hi => h i (by omega)), h k (by omega)]

theorem decDigits_le (u : Nat) (h : u < 100000000000000000000) : (Lib.decDigits u).length ≤ 20 := by
  have key : ∀ d u, u < 10 ^ (d + 1) → (Lib.decDigits u).length ≤ d + 1 := by
    intro d
    induction d with
    | zero => intro u hu; rw [Lib.decDigits, dif_pos (by simpa using hu)]; simp
    | succ d ih =>
      intro u hu
      rw [Lib.decDigits]
      split
      · simp
      · have := ih (u / 10) (by rw [Nat.pow_succ] at hu; exact Nat.div_lt_of_lt_mul (by omega))
        simp; omega
  exact key 19 u (by have : (10 : Nat) ^ (19 + 1) = 100000000000000000000 := by decide
                     omega)
theorem itoa_le (n : Int) (h0 : -9223372036854775808 ≤ n) (h1 : n ≤ 9223372036854775807) : (Lib.itoa n).length ≤ 21 := by
  unfold Lib.itoa
  split
  · have := decDigits_le n.natAbs (by omega)
    simp; omega
  · have := decDigits_le n.toNat (by omega)
    omega

/-- A step whose parts are small. -/
structure StpSmall (s : Stp) : Prop where
  name : s.name.size ≤ 1048576
  lo : -9223372036854775808 ≤ s.idx
  hi : s.idx ≤ 9223372036854775807

theorem stepText_le {acc : List UInt8} {s : Stp} (h : StpSmall s) : (stepText acc s).length ≤ acc.length + 1048600 := by
  have h1 := itoa_le s.idx h.lo h.hi
  have h2 := h.name
  have h3 : s.name.data.toList.length = s.name.size := Array.length_toList
  unfold stepText
  split
  · simp; omega
  · split
    · omega
    · simp only [List.length_append, List.length_cons, List.length_nil]; omega

theorem textL_le {N : Nat} {sp : Nat → Stp} (h : ∀ i, i < N → StpSmall (sp i)) (pre : List (Fin N)) : (textL sp pre).length ≤ pre.length * 1048600 := by
  have key : ∀ (pre : List (Fin N)) acc, (pre.foldl (fun acc j => stepText acc (sp j.1)) acc).length ≤ acc.length + pre.length * 1048600 := by
    intro pre
    induction pre with
    | nil => intro acc; simp
    | cons x pre ih =>
      intro acc
      have h1 := ih (stepText acc (sp x.1))
      have h2 := stepText_le (acc := acc) (h x.1 x.2)
      simp only [List.foldl_cons, List.length_cons]
      omega
  have := key pre []
  simpa [textL] using this

end Go.Proofs.Qxb6630050aDoor
