/-
  SEAT b6628981a: THE WALK of '(*turns).next' (function 10).
-/
import Derived.Test.Qxb6628981aRows
import Derived.Test.Qxb6628981aParts
import Derived.RegionTactic
import Derived.ChangeAlike
namespace Go.Proofs.Qxb6628981a
open Go.RowKit Swrr

theorem best_step (t : Nat → Int) (k : Nat) : best t (k + 1) = if t (best t k) < t k then k else best t k := rfl

theorem blk_round {wr : World} {bs n k : Nat} {z s : Nat → Int} (h : Blk wr bs n 2 (fun i => if i < k then swUp z s i else s i)) (nq : Nat) :
    Blk ((wr.setCell ⟨bs, k, none⟩ (.int .i64 (s k + z k))).drewN nq) bs n 2 (fun i => if i < k + 1 then swUp z s i else s i) := by
  refine ((h.set k (s k + z k)).drewN nq).congr fun i _ => ?_
  simp only [upd]
  by_cases e : i = k
  · subst e; simp [swUp]
  · by_cases e2 : i < k
    · have : i < k + 1 := by omega
      simp [e, e2, this]
    · have : ¬ i < k + 1 := by omega
      simp [e, e2, this]

theorem ret_int {k : IntKind} {a b : Int} (h : a = b) : Ending.returned (.int k a) = .returned (.int k b) := by rw [h]

theorem blk_last {wr : World} {bs n p : Nat} {z s : Nat → Int} {tot : Int} (h : Blk wr bs n 2 (fun i => if i < n then swUp z s i else s i)) (hp : p = swPick z s n) :
    Blk ((wr.setCell ⟨bs, p, none⟩ (.int .i64 (swUp z s p - tot))).drew) bs n 2 (swStep z s n tot) := by
  refine ((h.set p (swUp z s p - tot)).drew).congr fun i hi => ?_
  simp only [upd, swStep, ← hp, hi, if_true]

set_option maxHeartbeats 1000000 in
theorem next_any (bt bw bs n : Nat) (z s : Nat → Int) (tot : Int) (w : World) (hn : 0 < n) (hn' : n ≤ 4096)
    (ht0 : w.cell? ⟨bt, 0, none⟩ = some (.slice (some ⟨bw, 0, none⟩) n n)) (ht1 : w.cell? ⟨bt, 1, none⟩ = some (.slice (some ⟨bs, 0, none⟩) n n)) (ht2 : w.cell? ⟨bt, 2, none⟩ = some (.int .i64 tot))
    (hw : Blk w bw n 2 z) (hs : Blk w bs n 2 s) (htb : ¬ bt = bs) (hwb : ¬ bw = bs)
    (hz : ∀ i, 0 ≤ z i ∧ z i ≤ 65536) (hsb : ∀ i, -8589934592 ≤ s i ∧ s i ≤ 8589934592) (hto0 : 0 ≤ tot) (hto1 : tot ≤ 65536) :
    Calls Try.prog 10 #[.pointer (some ⟨bt, 0, none⟩)] w fun e w' => e = .returned (.int .i64 (swPick z s n)) ∧ Turned bs w w' ∧ Blk w' bs n 2 (swStep z s n tot) := by
  go_enter Try.func10, Try.ntmps10
  go_wp2
  go_loopw [3, 11] (fun b i wr => ∃ k p : Nat, k ≤ n ∧ i = .int .i64 k ∧ b = .int .i64 p ∧ Hid (p = best (swUp z s) k) ∧ Turned bs w wr ∧ Blk wr bs n 2 (fun i => if i < k then swUp z s i else s i))
    (fun _ i _ => n - (intOf i).toNat)
  case atStart => exact ⟨0, 0, Nat.zero_le _, rfl, rfl, rfl, Turned.refl _ _, hs.congr (fun i _ => by simp)⟩
  case round =>
    obtain ⟨k, p, hk, rfl, rfl, hp, htu, hbl⟩ := hrel
    by_cases hlt : k < n
    · have c0 := (htu.cell (p := ⟨bt, 0, none⟩) htb).trans ht0
      have c1 := (htu.cell (p := ⟨bt, 1, none⟩) htb).trans ht1
      have c2 := (htu.cell (p := ⟨bw, k, none⟩) hwb).trans (hw.cell k hlt)
      have c3 := hbl.cell k hlt
      simp only [Nat.lt_irrefl, if_false] at c3
      have f3 := hbl.free k
      have b1 := hz k
      have b2 := hsb k
      clear ht0 ht1 ht2 hw hs hz hsb
      go_wp2
      rcases Nat.eq_zero_or_pos k with hk0 | hk0
      · subst hk0
        obtain rfl : p = 0 := hp.out
        go_quiet (fail)
        go_wp2
        go_roundw
        case rel => exact ⟨1, 0, by omega, rfl, rfl, by simp [Hid, best], (htu.setCell _ _).drewN _, blk_round hbl nq⟩
        case measure => simp [intOf]; omega
      · have hpk : p < k := by rw [hp.out]; exact best_lt _ k hk0
        have c4 := hbl.cell p (by omega)
        simp only [hpk, if_true] at c4
        have hne : ¬ p = k := by omega
        have hne' : ¬ k = p := by omega
        go_quiet (fail)
        go_wp2
        · have ht : swUp z s p < s k + z k := by assumption
          go_roundw
          case rel => exact ⟨k + 1, k, by omega, by go_num, rfl, by rw [hp.out] at ht; exact (if_pos ht).symm, (htu.setCell _ _).drewN _, blk_round hbl nq⟩
          case measure => simp [intOf]; omega
        · have ht : s k + z k ≤ swUp z s p := by assumption
          go_roundw
          case rel => exact ⟨k + 1, p, by omega, by go_num, rfl, by rw [hp.out] at ht ⊢; exact (if_neg (Int.not_lt.2 ht)).symm, (htu.setCell _ _).drewN _, blk_round hbl nq⟩
          case measure => simp [intOf]; omega
    · obtain rfl : k = n := by omega
      have hpk : p < k := by rw [hp.out]; exact best_lt _ k hn
      have c0 := (htu.cell (p := ⟨bt, 0, none⟩) htb).trans ht0
      have c1 := (htu.cell (p := ⟨bt, 1, none⟩) htb).trans ht1
      have c2 := (htu.cell (p := ⟨bt, 2, none⟩) htb).trans ht2
      have c4 := hbl.cell p hpk
      simp only [hpk, if_true] at c4
      have f3 := hbl.free p
      have b1 : -8589934592 ≤ swUp z s p ∧ swUp z s p ≤ 8590000128 := by have := hz p; have := hsb p; unfold swUp; omega
      clear ht0 ht1 ht2 hw hs hz hsb
      go_wp2
      go_region
      all_goals (try go_wp2)
      go_ret
      have hpp : p = swPick z s k := hp.out
      refine ⟨ret_int (a := (p : Int)) (by rw [hpp]), ?_, ?_⟩
      · exact (htu.setCell _ _).drew
      · exact blk_last hbl hpp
end Go.Proofs.Qxb6628981a
