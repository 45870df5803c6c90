/-
  SEAT b6628981a: THE PLAIN LAW of smooth weighted round robin. No Go in sight.
-/
namespace Go.Proofs.Qxb6628981a.Swrr

/-- The sum of the first n values. -/
def sumF (f : Nat → Int) : Nat → Int
  | 0 => 0
  | n + 1 => sumF f n + f n

/-- The first of the highest among the first k values (0 where k is 0). -/
def best (t : Nat → Int) : Nat → Nat
  | 0 => 0
  | k + 1 => if t (best t k) < t k then k else best t k

/-- One value turned. -/
def upd (f : Nat → Int) (p : Nat) (v : Int) : Nat → Int := fun i => if i = p then v else f i

theorem best_lt (t : Nat → Int) : ∀ k, 0 < k → best t k < k
  | 0, h => by omega
  | k + 1, _ => by
    unfold best
    split
    · omega
    · rcases Nat.eq_zero_or_pos k with h | h
      · subst h; simp [best]
      · have := best_lt t k h; omega

theorem best_le (t : Nat → Int) (k : Nat) : best t k ≤ k := by
  rcases Nat.eq_zero_or_pos k with h | h
  · subst h; simp [best]
  · have := best_lt t k h; omega

theorem best_max (t : Nat → Int) : ∀ k i, i < k → t i ≤ t (best t k)
  | 0, i, h => by omega
  | k + 1, i, h => by
    unfold best
    split
    · rename_i hlt
      rcases Nat.lt_or_ge i k with hi | hi
      · have := best_max t k i hi; omega
      · have : i = k := by omega
        subst this; exact Int.le_refl _
    · rename_i hge
      rcases Nat.lt_or_ge i k with hi | hi
      · exact best_max t k i hi
      · have : i = k := by omega
        subst this; omega

theorem sumF_add (f g : Nat → Int) : ∀ n, sumF (fun i => f i + g i) n = sumF f n + sumF g n
  | 0 => rfl
  | n + 1 => by simp only [sumF, sumF_add f g n]; omega

theorem sumF_upd (f : Nat → Int) (p : Nat) (v : Int) : ∀ n, sumF (upd f p v) n = sumF f n + if p < n then v - f p else 0
  | 0 => by simp [sumF]
  | n + 1 => by
    simp only [sumF, sumF_upd f p v n, upd]
    by_cases h1 : p < n
    · have : ¬ n = p := by omega
      have h2 : p < n + 1 := by omega
      simp only [h1, h2, this, if_true, if_false]; omega
    · by_cases h3 : n = p
      · subst h3; simp; omega
      · have h2 : ¬ p < n + 1 := by omega
        simp only [h1, h2, h3, if_false]; omega

theorem sumF_nonpos (f : Nat → Int) : ∀ n, (∀ i, i < n → f i ≤ 0) → sumF f n ≤ 0
  | 0, _ => Int.le_refl _
  | n + 1, h => by
    have := sumF_nonpos f n (fun i hi => h i (by omega))
    have := h n (by omega)
    simp only [sumF]; omega

theorem sumF_nonneg (f : Nat → Int) : ∀ n, (∀ i, i < n → 0 ≤ f i) → 0 ≤ sumF f n
  | 0, _ => Int.le_refl _
  | n + 1, h => by
    have := sumF_nonneg f n (fun i hi => h i (by omega))
    have := h n (by omega)
    simp only [sumF]; omega

theorem sumF_zero (f : Nat → Int) : ∀ n, (∀ i, i < n → 0 ≤ f i) → sumF f n = 0 → ∀ i, i < n → f i = 0
  | 0, _, _, i, hi => by omega
  | n + 1, h, hs, i, hi => by
    have h1 := sumF_nonneg f n (fun i hi => h i (by omega))
    have h2 := h n (by omega)
    simp only [sumF] at hs
    rcases Nat.lt_or_ge i n with hi' | hi'
    · exact sumF_zero f n (fun i hi => h i (by omega)) (by omega) i hi'
    · have : i = n := by omega
      subst this; omega

theorem sumF_le (f : Nat → Int) (n : Nat) (h : ∀ i, i < n → 0 ≤ f i) : ∀ i, i < n → f i ≤ sumF f n := by
  induction n with
  | zero => intro i hi; omega
  | succ n ih =>
    intro i hi
    have h1 := sumF_nonneg f n (fun i hi => h i (by omega))
    have h2 := h n (by omega)
    simp only [sumF]
    rcases Nat.lt_or_ge i n with hi' | hi'
    · have := ih (fun i hi => h i (by omega)) i hi'; omega
    · have : i = n := by omega
      subst this; omega

theorem sumF_congr (f g : Nat → Int) : ∀ n, (∀ i, i < n → f i = g i) → sumF f n = sumF g n
  | 0, _ => rfl
  | n + 1, h => by simp only [sumF, sumF_congr f g n (fun i hi => h i (by omega)), h n (by omega)]

/-- The scores, swUp by their weights. -/
def swUp (z s : Nat → Int) : Nat → Int := fun i => s i + z i
/-- The next pick. -/
def swPick (z s : Nat → Int) (n : Nat) : Nat := best (swUp z s) n
/-- The scores behind a pick. -/
def swStep (z s : Nat → Int) (n : Nat) (tot : Int) : Nat → Int := upd (swUp z s) (swPick z s n) (swUp z s (swPick z s n) - tot)

/-- The scores behind k picks. -/
def S (z : Nat → Int) (n : Nat) (tot : Int) : Nat → Nat → Int
  | 0 => fun _ => 0
  | k + 1 => swStep z (S z n tot k) n tot
/-- The swPick behind k picks. -/
def P (z : Nat → Int) (n : Nat) (tot : Int) (k : Nat) : Nat := swPick z (S z n tot k) n
/-- How often each choice has been picked in k picks. -/
def C (z : Nat → Int) (n : Nat) (tot : Int) : Nat → Nat → Int
  | 0 => fun _ => 0
  | k + 1 => upd (C z n tot k) (P z n tot k) (C z n tot k (P z n tot k) + 1)

/-- What the weights are: none below 0, none beyond n, their sum 'tot'. -/
structure Fits (z : Nat → Int) (n : Nat) (tot : Int) : Prop where
  nn : ∀ i, 0 ≤ z i
  out : ∀ i, n ≤ i → z i = 0
  sum : sumF z n = tot

theorem C_nonneg (z : Nat → Int) (n : Nat) (tot : Int) : ∀ k i, 0 ≤ C z n tot k i
  | 0, i => Int.le_refl _
  | k + 1, i => by
    have h1 := C_nonneg z n tot k i
    have h2 := C_nonneg z n tot k (P z n tot k)
    simp only [C, upd]
    split <;> omega

theorem C_le (z : Nat → Int) (n : Nat) (tot : Int) : ∀ k i, C z n tot k i ≤ k
  | 0, i => by simp [C]
  | k + 1, i => by
    have h1 := C_le z n tot k i
    have h2 := C_le z n tot k (P z n tot k)
    simp only [C, upd]
    split <;> omega

theorem S_eq (z : Nat → Int) (n : Nat) (tot : Int) : ∀ k i, S z n tot k i = k * z i - C z n tot k i * tot
  | 0, i => by simp [S, C]
  | k + 1, i => by
    have h1 := S_eq z n tot k i
    simp only [S, swStep, C, upd]
    have hp : swPick z (S z n tot k) n = P z n tot k := rfl
    rw [hp]
    by_cases h : i = P z n tot k
    · subst h
      simp only [if_true, swUp, h1]
      simp only [Int.natCast_add, Int.add_mul, Int.natCast_one]
      omega
    · simp only [h, if_false, swUp, h1]
      simp only [Int.natCast_add, Int.add_mul, Int.natCast_one]
      omega

theorem P_lt (z : Nat → Int) (n : Nat) (tot : Int) (k : Nat) (hn : 0 < n) : P z n tot k < n := best_lt _ n hn

theorem n_pos {z : Nat → Int} {n : Nat} {tot : Int} (F : Fits z n tot) (ht : 0 < tot) : 0 < n := by
  rcases Nat.eq_zero_or_pos n with h | h
  · subst h; have := F.sum; simp [sumF] at this; omega
  · exact h

theorem S_sum {z : Nat → Int} {n : Nat} {tot : Int} (F : Fits z n tot) (ht : 0 < tot) : ∀ k, sumF (S z n tot k) n = 0
  | 0 => by
    have : ∀ n, sumF (fun _ => (0 : Int)) n = 0 := fun n => by induction n with
      | zero => rfl
      | succ n ih => simp [sumF, ih]
    simp only [S, this]
  | k + 1 => by
    have hp := P_lt z n tot k (n_pos F ht)
    simp only [S, swStep]
    rw [sumF_upd]
    have hp' : swPick z (S z n tot k) n < n := hp
    rw [if_pos hp']
    have h2 : sumF (swUp z (S z n tot k)) n = sumF (S z n tot k) n + sumF z n := sumF_add _ _ n
    rw [h2, S_sum F ht k, F.sum]; omega

/-- The picked score, swUp, is above 0. -/
theorem top_pos {z : Nat → Int} {n : Nat} {tot : Int} (F : Fits z n tot) (ht : 0 < tot) (k : Nat) : 0 < swUp z (S z n tot k) (P z n tot k) := by
  rcases Int.lt_or_le 0 (swUp z (S z n tot k) (P z n tot k)) with h | h
  · exact h
  · have h2 : sumF (swUp z (S z n tot k)) n = sumF (S z n tot k) n + sumF z n := sumF_add _ _ n
    rw [S_sum F ht k, F.sum] at h2
    have := sumF_nonpos (swUp z (S z n tot k)) n (fun i hi => by
      have := best_max (swUp z (S z n tot k)) n i hi
      have h3 : best (swUp z (S z n tot k)) n = P z n tot k := rfl
      rw [h3] at this; omega)
    omega

/-- Every score stays above minus the sum. -/
theorem S_lo {z : Nat → Int} {n : Nat} {tot : Int} (F : Fits z n tot) (ht : 0 < tot) : ∀ k i, -tot < S z n tot k i
  | 0, i => by simp [S]; omega
  | k + 1, i => by
    have h1 := S_lo F ht k i
    have h2 := top_pos F ht k
    have h3 := F.nn i
    simp only [S, swStep, upd]
    have hp : swPick z (S z n tot k) n = P z n tot k := rfl
    rw [hp]
    split
    · omega
    · simp only [swUp]; omega

/-- No choice of weight 0 is picked. -/
theorem P_pos {z : Nat → Int} {n : Nat} {tot : Int} (F : Fits z n tot) (ht : 0 < tot) (k : Nat) : 0 < z (P z n tot k) := by
  have h1 := F.nn (P z n tot k)
  rcases Int.lt_or_le 0 (z (P z n tot k)) with h | h
  · exact h
  · have h0 : z (P z n tot k) = 0 := by omega
    have h2 := top_pos F ht k
    have h3 := S_eq z n tot k (P z n tot k)
    have h4 := C_nonneg z n tot k (P z n tot k)
    simp only [swUp, h0] at h2 h3
    have h5 : 0 ≤ C z n tot k (P z n tot k) * tot := Int.mul_nonneg h4 (by omega)
    omega

/-- After the pick of number k + 1 the picked choice has not been picked as often as one more than its share. -/
theorem spread {z : Nat → Int} {n : Nat} {tot : Int} (F : Fits z n tot) (ht : 0 < tot) (k : Nat) (i : Nat) :
    C z n tot (k + 1) i * tot < (k + 1 : Int) * z i + tot := by
  have h1 := S_lo F ht (k + 1) i
  rw [S_eq] at h1
  have h2 : ((k + 1 : Nat) : Int) = (k : Int) + 1 := by omega
  rw [h2] at h1
  omega

theorem C_out (z : Nat → Int) (n : Nat) (tot : Int) (hn : 0 < n) : ∀ k i, n ≤ i → C z n tot k i = 0
  | 0, i, _ => rfl
  | k + 1, i, h => by
    have h1 := C_out z n tot hn k i h
    have h2 := P_lt z n tot k hn
    simp only [C, upd]
    rw [if_neg (by omega)]; exact h1

/-- Behind 'tot' picks every choice has been picked as often as its weight. -/
theorem C_tot {z : Nat → Int} {n : Nat} {T : Nat} (F : Fits z n T) (i : Nat) : C z n T T i = z i := by
  rcases Nat.eq_zero_or_pos T with hT | hT
  · subst hT
    rcases Nat.lt_or_ge i n with hi | hi
    · exact (sumF_zero z n (fun i _ => F.nn i) F.sum i hi).symm
    · exact (F.out i hi).symm
  · have ht : (0 : Int) < T := by omega
    have key : ∀ j, S z n T T j = T * (z j - C z n T T j) := fun j => by rw [S_eq, Int.mul_sub, Int.mul_comm (C z n T T j)]
    have lo : ∀ j, 0 ≤ z j - C z n T T j := fun j => by
      have h1 := S_lo F ht T j
      rw [key] at h1
      rcases Int.lt_or_le (z j - C z n T T j) 0 with h | h
      · have h2 : (T : Int) * (z j - C z n T T j) ≤ T * (-1) := Int.mul_le_mul_of_nonneg_left (by omega) (by omega)
        omega
      · exact h
    have nn : ∀ j, 0 ≤ S z n T T j := fun j => by rw [key]; exact Int.mul_nonneg (by omega) (lo j)
    rcases Nat.lt_or_ge i n with hi | hi
    · have h0 := sumF_zero (S z n T T) n (fun j _ => nn j) (S_sum F ht T) i hi
      rw [key] at h0
      rcases Int.mul_eq_zero.1 h0 with h | h <;> omega
    · rw [C_out z n T (n_pos F ht) T i hi, F.out i hi]

/-- Behind 'tot' picks every score is 0 again. -/
theorem S_tot {z : Nat → Int} {n : Nat} {T : Nat} (F : Fits z n T) : S z n T T = fun _ => 0 := by
  funext i
  rw [S_eq, C_tot F, Int.mul_comm]; omega

theorem S_again {z : Nat → Int} {n : Nat} {T : Nat} (F : Fits z n T) : ∀ k, S z n T (T + k) = S z n T k
  | 0 => S_tot F
  | k + 1 => by
    show swStep z (S z n T (T + k)) n T = swStep z (S z n T k) n T
    rw [S_again F k]

/-- The second round repeats the first. -/
theorem P_again {z : Nat → Int} {n : Nat} {T : Nat} (F : Fits z n T) (k : Nat) : P z n T (T + k) = P z n T k := by
  unfold P; rw [S_again F k]

/-- Bounds on the scores: nothing wraps. -/
theorem S_bd {z : Nat → Int} {n : Nat} {tot : Int} (F : Fits z n tot) (ht : 0 ≤ tot) (htm : tot ≤ 65536) (k : Nat) (hk : k ≤ 131072) (i : Nat) :
    -8589934592 ≤ S z n tot k i ∧ S z n tot k i ≤ 8589934592 := by
  rw [S_eq]
  have h1 := C_nonneg z n tot k i
  have h2 := C_le z n tot k i
  have hz0 := F.nn i
  have hz1 : z i ≤ 65536 := by
    rcases Nat.lt_or_ge i n with hi | hi
    · have := sumF_le z n (fun i _ => F.nn i) i hi
      rw [F.sum] at this; omega
    · rw [F.out i hi]; omega
  have a1 : 0 ≤ (k : Int) * z i := Int.mul_nonneg (by omega) hz0
  have a2 : (k : Int) * z i ≤ 131072 * 65536 := Int.mul_le_mul (by omega) hz1 hz0 (by omega)
  have b1 : 0 ≤ C z n tot k i * tot := Int.mul_nonneg h1 ht
  have b2 : C z n tot k i * tot ≤ 131072 * 65536 := Int.mul_le_mul (by omega) htm ht (by omega)
  omega

theorem z_bd {z : Nat → Int} {n : Nat} {tot : Int} (F : Fits z n tot) (htm : tot ≤ 65536) (i : Nat) : 0 ≤ z i ∧ z i ≤ 65536 := by
  refine ⟨F.nn i, ?_⟩
  rcases Nat.lt_or_ge i n with hi | hi
  · have := sumF_le z n (fun i _ => F.nn i) i hi
    rw [F.sum] at this; omega
  · rw [F.out i hi]; omega

end Go.Proofs.Qxb6628981a.Swrr
