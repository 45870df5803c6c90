/-
  SEAT b6630001a: the walk of 'zzRelayPrefix' (function 7).
-/
import Derived.Test.Qxb6630001aCount
import Derived.BigRegion
namespace Go.Proofs.Qxb6630001a
open Go.RowKit Ry

/-- A message's three cells. -/
def mcells (m : Msg) : List Value := [.string m.1, .int .i64 m.2.1, .int .i64 m.2.2]
/-- The cells of a list of messages. -/
def cellsM (ms : List Msg) : List Value := ms.flatMap mcells

theorem cellsM_len (ms : List Msg) : (cellsM ms).length = ms.length * 3 := by
  induction ms with
  | nil => rfl
  | cons m ms ih => simp only [cellsM, List.flatMap_cons, List.length_append, List.length_cons] at ih ⊢; rw [ih]; simp [mcells]; omega

theorem take_set3 {α : Type} (xs : List α) (i : Nat) (a b c : α) (h : i + 2 < xs.length) : (((xs.set i a).set (i + 1) b).set (i + 2) c).take (i + 3) = xs.take i ++ [a, b, c] := by
  apply List.ext_getElem?
  intro j
  rcases Nat.lt_or_ge j i with h1 | h1
  · have e1 : ¬ i + 2 = j := by omega
    have e2 : ¬ i + 1 = j := by omega
    have e3 : ¬ i = j := by omega
    have e4 : j < i + 3 := by omega
    rw [List.getElem?_take, if_pos e4, List.getElem?_set, if_neg e1, List.getElem?_set, if_neg e2, List.getElem?_set, if_neg e3]
    rw [List.getElem?_append_left (by simp; omega), List.getElem?_take, if_pos h1]
  · rw [List.getElem?_append_right (by simp; omega)]
    simp only [List.length_take, Nat.min_eq_left (show i ≤ xs.length by omega)]
    rcases Nat.lt_or_ge j (i + 3) with h2 | h2
    · rw [List.getElem?_take, if_pos h2, List.getElem?_set, List.getElem?_set, List.getElem?_set]
      simp only [List.length_set]
      rcases (show j = i ∨ j = i + 1 ∨ j = i + 2 by omega) with rfl | rfl | rfl
      · simp; omega
      · simp [show i + 1 - i = 1 by omega]; omega
      · simp [show i + 2 - i = 2 by omega]; omega
    · rw [List.getElem?_take, if_neg (by omega)]
      rw [List.getElem?_eq_none (by simp; omega)]

theorem Try.info33 : (Try.prog.info? 33).map (fun i => (i.zero, i.size, i.bytes)) = some (some (.agg #[.string ByteArray.empty, .int .i64 0, .int .i64 0]), 3, 32) := by kernel_rfl

theorem cellsM_snoc (f : Nat → Msg) (k : Nat) : cellsM ((List.range (k + 1)).map f) = cellsM ((List.range k).map f) ++ mcells (f k) := by
  simp [cellsM, List.range_succ]

theorem pre_round {wr : World} {g n k : Nat} {xs : List Value} (hown : wr.ownsRow g 33 3 (.slice (some ⟨g, 0, none⟩) n n) n xs) (hlt : k < n) (a : ByteArray) (b c : Int) :
    (((wr.setCell ⟨g, k * 3, none⟩ (.string a)).setCell ⟨g, k * 3 + 1, none⟩ (.int .i64 b)).setCell ⟨g, k * 3 + 2, none⟩ (.int .i64 c)).drew.ownsRow g 33 3 (.slice (some ⟨g, 0, none⟩) n n) n
      (((xs.set (k * 3) (.string a)).set (k * 3 + 1) (.int .i64 b)).set (k * 3 + 2) (.int .i64 c)) ∧
    (((xs.set (k * 3) (.string a)).set (k * 3 + 1) (.int .i64 b)).set (k * 3 + 2) (.int .i64 c)).take ((k + 1) * 3) = xs.take (k * 3) ++ mcells (a, b, c) := by
  have hl := hown.1
  refine ⟨(((hown.stored _ _).1.stored _ _).1.stored _ _).1.drew, ?_⟩
  rw [show (k + 1) * 3 = k * 3 + 3 by omega]
  exact take_set3 xs (k * 3) _ _ _ (by omega)

set_option maxHeartbeats 2000000 in
set_option maxRecDepth 10000 in
theorem pre7_any (ta : Option Addr) (n tc : Nat) (tl : Nat → ByteArray) (sa : Option Addr) (sc : Nat) (sf : Nat → Int) (ca : Option Addr) (cc : Nat) (cf : Nat → Int) (B : Nat) (w : World)
    (ht : StrsIn w B ta n tl) (hs : IntsIn w B sa n sf) (hc : IntsIn w B ca n cf) (hn : n ≤ 65536) (hB : B ≤ w.heap.size) :
    Calls Try.prog 7 #[.slice ta n tc, .slice sa n sc, .slice ca n cc] w fun e w' => e = .returned (.slice (some ⟨w.heap.size, 0, none⟩) n n) ∧
      w'.ownsRow w.heap.size 33 3 (.slice (some ⟨w.heap.size, 0, none⟩) n n) n (cellsM ((List.range n).map fun i => (tl i, sf i, cf i))) ∧ Below w.heap.size w w' := by
  obtain ⟨i3, hi3, hz30, hz31, hz32⟩ := info_parts Try.info33
  go_enter Try.func7, Try.ntmps7
  go_wp2_with (at_make; refine wpList_make_full _ rfl (.tmp 10) (.tmp 10) 29 rfl w.heap.size 33 i3 _ 3 Try.underlying29 hi3 hz30 hz31 _ _ _ _ n rfl rfl (by omega) (by omega) (by rw [hz32]; omega) (by unfold maxLen; omega) (Nat.le_refl _) ?_; intro w1 hown1 hgrow1)
  have hb1 : Below w.heap.size w w1 := (Below.refl _ _).grown hgrow1 (Nat.le_refl _) (fun k hk => by simp at hk)
  go_loopw [8] (fun i wr => ∃ k xs, k ≤ n ∧ i = .int .i64 (k : Nat) ∧ wr.ownsRow w.heap.size 33 3 (.slice (some ⟨w.heap.size, 0, none⟩) n n) n xs ∧ Hid (xs.take (k * 3) = cellsM ((List.range k).map fun i => (tl i, sf i, cf i))) ∧ Below w.heap.size w wr) (fun i _ => n - (intOf i).toNat)
  case atStart => exact ⟨0, _, by omega, rfl, hown1, by simp [Hid, cellsM], hb1⟩
  case round =>
    obtain ⟨k, xs, hk, rfl, hown, htk, hbel⟩ := hrel
    clear hown1 hgrow1 hb1
    by_cases hlt : k < n
    · obtain ⟨b1, o1, rfl, hb1, hc1⟩ := ht.row (by omega)
      obtain ⟨b2, o2, rfl, hb2, hc2⟩ := hs.row (by omega)
      obtain ⟨b3, o3, rfl, hb3, hc3⟩ := hc.row (by omega)
      have d1 := (hbel.cell (p := ⟨b1, o1 + k, none⟩) (by show b1 < _; omega)).trans (hc1 k hlt)
      have d2 := (hbel.cell (p := ⟨b2, o2 + k, none⟩) (by show b2 < _; omega)).trans (hc2 k hlt)
      have d3 := (hbel.cell (p := ⟨b3, o3 + k, none⟩) (by show b3 < _; omega)).trans (hc3 k hlt)
      have g0 := hown.cellAt (k * 3) (by omega)
      have g1 := hown.cellAt (k * 3 + 1) (by omega)
      have g2 := hown.cellAt (k * 3 + 2) (by omega)
      have f0 := hown.frozenAt (k * 3)
      have f1 := hown.frozenAt (k * 3 + 1)
      have f2 := hown.frozenAt (k * 3 + 2)
      have hxl := hown.1
      obtain ⟨v0, hv0⟩ : ∃ v, xs[k * 3]? = some v := ⟨_, List.getElem?_eq_getElem (by omega)⟩
      obtain ⟨v1, hv1⟩ : ∃ v, xs[k * 3 + 1]? = some v := ⟨_, List.getElem?_eq_getElem (by omega)⟩
      obtain ⟨v2, hv2⟩ : ∃ v, xs[k * 3 + 2]? = some v := ⟨_, List.getElem?_eq_getElem (by omega)⟩
      rw [hv0] at g0
      rw [hv1] at g1
      rw [hv2] at g2
      clear ht hs hc hc1 hc2 hc3 hv0 hv1 hv2
      go_wp2
      go_region
      all_goals (try go_wp2)
      go_roundw
      case rel =>
        obtain ⟨r1, r2⟩ := pre_round hown hlt (tl k) (sf k) (cf k)
        exact ⟨k + 1, _, by omega, by go_num, r1, by rw [Hid, r2, htk.out, cellsM_snoc], hbel.drew.setCell (Nat.le_refl _) _ |>.setCell (Nat.le_refl _) _ |>.setCell (Nat.le_refl _) _⟩
      case measure => simp [intOf]; omega
    · go_wp2
      go_ret
      refine ⟨rfl, ?_, hbel⟩
      have e : xs.take (k * 3) = xs := List.take_of_length_le (by have := hown.1; omega)
      have e2 := htk.out
      rw [e] at e2
      rw [show n = k from by omega] at hown ⊢
      rw [← e2]; exact hown

end Go.Proofs.Qxb6630001a
