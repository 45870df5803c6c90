/-
  SEAT b6630001a: THE PLAIN LAW of 'Relay': the messages as lists. No Go in sight.
-/
import Derived.Laws.Strings
import Derived.WideShapes
namespace Go.Proofs.Qxb6630001a.Ry

/-- A message: To, Stage, Child. -/
abbrev Msg := ByteArray × Int × Int

/-- Is this entry sent to? -/
def other (nm x : ByteArray) : Bool := !(x.toList == nm.toList)

theorem other_iff (nm x : ByteArray) : other nm x = true ↔ x ≠ nm := by
  unfold other
  simp only [Bool.not_eq_true', beq_eq_false_iff_ne, ne_eq]
  constructor
  · intro h e; exact h (by rw [e])
  · intro h e
    apply h
    rw [ByteArray.toList_eq, ByteArray.toList_eq] at e
    exact Go.WideShapes.bytes_inj e

/-- The sum of the first k numbers. -/
def sumN (f : Nat → Nat) : Nat → Nat
  | 0 => 0
  | k + 1 => sumN f k + f k

theorem sumN_mono (f : Nat → Nat) {a b : Nat} (h : a ≤ b) : sumN f a ≤ sumN f b := by
  induction b with
  | zero => have : a = 0 := by omega
            subst this; exact Nat.le_refl _
  | succ b ih =>
    rcases Nat.lt_or_ge a (b + 1) with h' | h'
    · have := ih (by omega); simp only [sumN]; omega
    · have : a = b + 1 := by omega
      subst this; exact Nat.le_refl _

theorem sumN_le (f : Nat → Nat) {k n : Nat} (h : k < n) : sumN f k + f k ≤ sumN f n := sumN_mono f (a := k + 1) h

/-- The messages of row s, its first j entries. -/
def rowMsgs (nm : ByteArray) (s : Nat) (r : Nat → ByteArray) : Nat → List Msg
  | 0 => []
  | j + 1 => rowMsgs nm s r j ++ (if other nm (r j) then [(r j, (s : Int), (j : Int))] else [])

theorem rowMsgs_yes {nm : ByteArray} {s : Nat} {r : Nat → ByteArray} {j : Nat} (h : other nm (r j) = true) : rowMsgs nm s r (j + 1) = rowMsgs nm s r j ++ [(r j, (s : Int), (j : Int))] := by simp [rowMsgs, h]
theorem rowMsgs_no {nm : ByteArray} {s : Nat} {r : Nat → ByteArray} {j : Nat} (h : other nm (r j) = false) : rowMsgs nm s r (j + 1) = rowMsgs nm s r j := by simp [rowMsgs, h]
theorem rowMsgs_le (nm : ByteArray) (s : Nat) (r : Nat → ByteArray) : ∀ j, (rowMsgs nm s r j).length ≤ j
  | 0 => Nat.le_refl _
  | j + 1 => by
    have := rowMsgs_le nm s r j
    cases h : other nm (r j)
    · rw [rowMsgs_no h]; omega
    · rw [rowMsgs_yes h]; simp; omega

/-- The messages of stages s down to 1. -/
def relay (nm : ByteArray) (L : Nat → Nat) (l : Nat → Nat → ByteArray) : Nat → List Msg
  | 0 => []
  | s + 1 => rowMsgs nm s (l s) (L s) ++ relay nm L l s

/-- How many entries of rows lo, lo + 1, .. (d of them) are other than the name. -/
def count (nm : ByteArray) (L : Nat → Nat) (l : Nat → Nat → ByteArray) (lo : Nat) : Nat → Nat
  | 0 => 0
  | d + 1 => count nm L l lo d + (rowMsgs nm (lo + d) (l (lo + d)) (L (lo + d))).length

/-- A message of row s: it is an entry of that row, at its place, and is not the name. -/
def Good (nm : ByteArray) (L : Nat → Nat) (l : Nat → Nat → ByteArray) (st : Nat) (m : Msg) : Prop :=
  ∃ s j : Nat, m = (l s j, (s : Int), (j : Int)) ∧ s < st ∧ j < L s ∧ other nm (l s j) = true

theorem rowMsgs_mem (nm : ByteArray) (s : Nat) (r : Nat → ByteArray) : ∀ k m, m ∈ rowMsgs nm s r k → ∃ j : Nat, m = (r j, (s : Int), (j : Int)) ∧ j < k ∧ other nm (r j) = true
  | 0, m, h => by simp [rowMsgs] at h
  | k + 1, m, h => by
    cases ho : other nm (r k)
    · rw [rowMsgs_no ho] at h
      obtain ⟨j, h1, h2, h3⟩ := rowMsgs_mem nm s r k m h
      exact ⟨j, h1, by omega, h3⟩
    · rw [rowMsgs_yes ho, List.mem_append] at h
      rcases h with h | h
      · obtain ⟨j, h1, h2, h3⟩ := rowMsgs_mem nm s r k m h
        exact ⟨j, h1, by omega, h3⟩
      · simp only [List.mem_singleton] at h
        exact ⟨k, h, by omega, ho⟩

theorem relay_mem (nm : ByteArray) (L : Nat → Nat) (l : Nat → Nat → ByteArray) : ∀ st m, m ∈ relay nm L l st → Good nm L l st m
  | 0, m, h => by simp [relay] at h
  | st + 1, m, h => by
    rw [relay, List.mem_append] at h
    rcases h with h | h
    · obtain ⟨j, h1, h2, h3⟩ := rowMsgs_mem nm st (l st) (L st) m h
      exact ⟨st, j, h1, by omega, h2, h3⟩
    · obtain ⟨s, j, h1, h2, h3⟩ := relay_mem nm L l st m h
      exact ⟨s, j, h1, by omega, h3⟩

/-- The order of sending. -/
def Ahead (a b : Msg) : Prop := b.2.1 < a.2.1 ∨ (a.2.1 = b.2.1 ∧ a.2.2 < b.2.2)

theorem rowMsgs_sorted (nm : ByteArray) (s : Nat) (r : Nat → ByteArray) : ∀ k, (rowMsgs nm s r k).Pairwise Ahead
  | 0 => List.Pairwise.nil
  | k + 1 => by
    cases ho : other nm (r k)
    · rw [rowMsgs_no ho]; exact rowMsgs_sorted nm s r k
    · rw [rowMsgs_yes ho, List.pairwise_append]
      refine ⟨rowMsgs_sorted nm s r k, List.pairwise_singleton _ _, fun a ha b hb => ?_⟩
      obtain ⟨j, h1, h2, _⟩ := rowMsgs_mem nm s r k a ha
      simp only [List.mem_singleton] at hb
      subst h1; subst hb
      right; exact ⟨rfl, by show (j : Int) < k; omega⟩

theorem relay_sorted (nm : ByteArray) (L : Nat → Nat) (l : Nat → Nat → ByteArray) : ∀ st, (relay nm L l st).Pairwise Ahead
  | 0 => List.Pairwise.nil
  | st + 1 => by
    rw [relay, List.pairwise_append]
    refine ⟨rowMsgs_sorted nm st (l st) (L st), relay_sorted nm L l st, fun a ha b hb => ?_⟩
    obtain ⟨j, h1, h2, _⟩ := rowMsgs_mem nm st (l st) (L st) a ha
    obtain ⟨s, j', h3, h4, _⟩ := relay_mem nm L l st b hb
    subst h1; subst h3
    left; show (s : Int) < st; omega

theorem relay_len (nm : ByteArray) (L : Nat → Nat) (l : Nat → Nat → ByteArray) : ∀ st, (relay nm L l st).length = count nm L l 0 st
  | 0 => rfl
  | st + 1 => by
    rw [relay, count, List.length_append, relay_len nm L l st, Nat.zero_add]; omega

theorem count_le (nm : ByteArray) (L : Nat → Nat) (l : Nat → Nat → ByteArray) : ∀ st, count nm L l 0 st ≤ sumN L st
  | 0 => Nat.le_refl _
  | st + 1 => by
    have := count_le nm L l st
    have := rowMsgs_le nm (0 + st) (l (0 + st)) (L (0 + st))
    rw [count, sumN]
    simp only [Nat.zero_add] at *
    omega

/-- What the last loop of the first law asks of message i. -/
theorem relay_at (nm : ByteArray) (L : Nat → Nat) (l : Nat → Nat → ByteArray) (st : Nat) (d : Msg) (i : Nat) (hi : i < (relay nm L l st).length) :
    ∃ s j : Nat, (relay nm L l st).getD i d = (l s j, (s : Int), (j : Int)) ∧ s < st ∧ j < L s ∧ other nm (l s j) = true := by
  have h := relay_mem nm L l st ((relay nm L l st).getD i d) (by
    rw [List.getD_eq_getElem?_getD, List.getElem?_eq_getElem hi]; exact List.getElem_mem hi)
  obtain ⟨s, j, h1, h2, h3, h4⟩ := h
  exact ⟨s, j, h1, h2, h3, h4⟩

theorem relay_order (nm : ByteArray) (L : Nat → Nat) (l : Nat → Nat → ByteArray) (st : Nat) (d : Msg) (i : Nat) (hi : i + 1 < (relay nm L l st).length) :
    Ahead ((relay nm L l st).getD i d) ((relay nm L l st).getD (i + 1) d) := by
  have h := List.pairwise_iff_getElem.1 (relay_sorted nm L l st) i (i + 1) (by omega) hi (by omega)
  rw [List.getD_eq_getElem?_getD, List.getD_eq_getElem?_getD, List.getElem?_eq_getElem hi, List.getElem?_eq_getElem (by omega)]
  exact h

end Go.Proofs.Qxb6630001a.Ry
