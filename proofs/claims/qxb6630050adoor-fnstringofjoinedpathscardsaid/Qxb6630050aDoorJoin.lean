/-
  SEAT b6630050aD: the second law, with no Go in sight.
-/
import Derived.Test.Qxb6630050aDoorText
namespace Go.Proofs.Qxb6630050aDoor

/-- The first m steps of f, written behind acc. -/
def textFrom (acc : List UInt8) (f : Nat → Stp) : Nat → List UInt8
  | 0 => acc
  | m + 1 => stepText (textFrom acc f m) (f m)

theorem textFrom_nil (f : Nat → Stp) : ∀ m, textN f m = textFrom [] f m
  | 0 => rfl
  | m + 1 => by rw [textN, textFrom, textFrom_nil f m]

/-- a path that goes on -/
theorem textN_from {sp g f : Nat → Stp} {n : Nat} (h0 : ∀ i, i < n → g i = sp i) : ∀ m, (∀ i, i < m → g (n + i) = f i) → textN g (n + m) = textFrom (textN sp n) f m
  | 0, _ => by rw [Nat.add_zero, textFrom]; exact textN_congr n h0
  | m + 1, h => by
    rw [← Nat.add_assoc, textN, textFrom, textN_from h0 m (fun i hi => h i (by omega)), h m (by omega)]

/-- a step into an object with an empty name -/
def Blank (s : Stp) : Prop := s.el = false ∧ s.name.data.toList = []

theorem step_ne {acc : List UInt8} (s : Stp) (h : acc ≠ []) : stepText acc s ≠ [] := by
  unfold stepText
  cases acc with
  | nil => exact absurd rfl h
  | cons x y => split <;> simp
theorem step_pre {x pre : List UInt8} (s : Stp) (h : x ≠ []) : stepText (pre ++ x) s = pre ++ stepText x s := by
  have h1 : x.isEmpty = false := by cases x with
    | nil => exact absurd rfl h
    | cons => rfl
  have h2 : (pre ++ x).isEmpty = false := by cases pre with
    | nil => exact h1
    | cons => rfl
  unfold stepText
  split
  · simp
  · rw [if_neg (by simp [h2]), if_neg (by simp [h1])]; simp

theorem lead_blank {sa : List UInt8} (h : sa ≠ []) {f : Nat → Stp} : ∀ m, (∀ i, i < m → Blank (f i)) → textFrom sa f m = sa ++ List.replicate m 46 ∧ textFrom [] f m = []
  | 0, _ => by simp [textFrom]
  | m + 1, hb => by
    obtain ⟨e1, e2⟩ := lead_blank h m (fun i hi => hb i (by omega))
    obtain ⟨b1, b2⟩ := hb m (by omega)
    have hne : (sa ++ List.replicate m (46 : UInt8)).isEmpty = false := by cases sa with
      | nil => exact absurd rfl h
      | cons => rfl
    constructor
    · rw [textFrom, e1, stepText, if_neg (by simp [b1]), if_neg (by simp [hne]), b2, List.replicate_succ']
      simp
    · rw [textFrom, e2, stepText, if_neg (by simp [b1]), if_pos (by simp), b2]

theorem tail_same {f : Nat → Stp} {sa pre : List UInt8} {k : Nat} (h0 : textFrom sa f k = pre ++ textFrom [] f k) (h1 : textFrom [] f k ≠ []) : ∀ m, textFrom sa f (k + m) = pre ++ textFrom [] f (k + m) ∧ textFrom [] f (k + m) ≠ []
  | 0 => ⟨h0, h1⟩
  | m + 1 => by
    obtain ⟨e1, e2⟩ := tail_same h0 h1 m
    rw [← Nat.add_assoc, textFrom, textFrom, e1]
    exact ⟨step_pre _ e2, step_ne _ e2⟩

/-- the dots between two texts -/
def dots (k : Nat) (f : Nat → Stp) (n : Nat) : List UInt8 := List.replicate k 46 ++ (if k < n ∧ (f k).el = false then [46] else [])

theorem joined {sa : List UInt8} (h : sa ≠ []) {f : Nat → Stp} {n k : Nat} (hk : k ≤ n) (hb : ∀ i, i < k → Blank (f i)) (he : k = n ∨ ¬ Blank (f k)) : textFrom sa f n = sa ++ dots k f n ++ textFrom [] f n := by
  obtain ⟨e1, e2⟩ := lead_blank h k hb
  rcases Nat.lt_or_ge k n with hlt | hge
  · have hnb : ¬ Blank (f k) := he.resolve_left (by omega)
    obtain ⟨m, rfl⟩ : ∃ m, n = (k + 1) + m := ⟨n - (k + 1), by omega⟩
    refine (tail_same (k := k + 1) (pre := sa ++ dots k f (k + 1 + m)) ?_ ?_ m).1
    · rw [textFrom, textFrom, e1, e2]
      unfold stepText dots
      by_cases hel : (f k).el = true
      · simp [hel]
      · have hel' : (f k).el = false := by simpa using hel
        have hlt' : k < k + 1 + m := by omega
        simp [hel', h, hlt']
    · rw [textFrom, e2, stepText]
      by_cases hel : (f k).el = true
      · simp [hel]
      · have hel' : (f k).el = false := by simpa using hel
        rw [if_neg hel, if_pos (by simp)]
        exact fun e => hnb ⟨hel', e⟩
  · obtain rfl : k = n := by omega
    rw [e1, e2]
    unfold dots
    rw [if_neg (by omega)]
    simp

/-- the text ends with its last step -/
theorem ends_el {acc : List UInt8} {f : Nat → Stp} {n : Nat} (h : (f n).el = true) : ([91] ++ Lib.itoa (f n).idx ++ [93]) <:+ textFrom acc f (n + 1) := by
  rw [textFrom, stepText, if_pos h]
  exact ⟨textFrom acc f n, by simp⟩
theorem ends_name {acc : List UInt8} {f : Nat → Stp} {n : Nat} (h : (f n).el = false) : (f n).name.data.toList <:+ textFrom acc f (n + 1) := by
  rw [textFrom, stepText, if_neg (by simp [h])]
  split
  · exact List.suffix_refl _
  · exact ⟨textFrom acc f n ++ [46], by simp⟩

end Go.Proofs.Qxb6630050aDoor
