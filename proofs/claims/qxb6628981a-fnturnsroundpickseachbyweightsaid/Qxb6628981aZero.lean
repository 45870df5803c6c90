/-
  SEAT b6628981a: both laws at an empty slice (nil or not).
-/
import Derived.Test.Qxb6628981aSpread
namespace Go.Proofs.Qxb6628981a
open Go.RowKit Swrr

set_option maxHeartbeats 1000000 in
theorem zero4 (a : Option Addr) (c : Nat) (w : World) :
    Calls Try.prog 4 #[.slice a 0 c] w fun e w' => e = .returned (.bool true) ∧ Below w.heap.size w w' := by
  obtain ⟨i2, hi2, hz20, hz21, hz22⟩ := info_parts Try.info2
  obtain ⟨i3, hi3, hz30, hz31, hz32⟩ := info_parts Try.info3
  go_enter Try.func4, Try.ntmps4
  go_wp2_with (go_at_call 9; refine (bytes9_any _ _ _ (by omega) _).mono ?_; rintro e w' ⟨rfl, rfl⟩)
  refine wp_loop_rounds 1 ?_
  rw [rounds_succ]
  go_wp2_with (at_make; refine wpList_make_full _ rfl (.tmp 42) (.tmp 42) 22 rfl w.heap.size 2 i2 (.int .i64 0) 1 Try.underlying22 hi2 hz20 hz21 _ _ _ _ 0 rfl rfl (by omega) (by omega) (by omega) (by unfold maxLen; omega) (Nat.le_refl _) ?_; intro w1 hown1 hgrow1; have M1 := made_of hown1 hgrow1; clear hown1 hgrow1)
  refine wp_loop_rounds 1 ?_
  rw [rounds_succ]
  go_wp2_with (first | (at_make; refine wpList_make_full _ rfl (.tmp 58) (.tmp 58) 22 rfl w1.heap.size 2 i2 (.int .i64 0) 1 Try.underlying22 hi2 hz20 hz21 _ _ _ _ 0 rfl rfl (by omega) (by omega) (by omega) (by unfold maxLen; omega) (Nat.le_refl _) ?_; intro w2 hown2 hgrow2; have M2 := made_of hown2 hgrow2; clear hown2 hgrow2))
  refine (new6_any _ _ _ _ _).mono ?_
  rintro e w3 ⟨rfl, T3, B3, s3⟩
  go_wp2_with (first | (at_make; refine wpList_make_full _ rfl (.tmp 65) (.tmp 65) 22 rfl w3.heap.size 2 i2 (.int .i64 0) 1 Try.underlying22 hi2 hz20 hz21 _ _ _ _ 0 rfl rfl (by omega) (by omega) (by omega) (by unfold maxLen; omega) (Nat.le_refl _) ?_; intro w4 hown4 hgrow4; have M4 := made_of hown4 hgrow4; clear hown4 hgrow4) | (at_make; refine wpList_make_full _ rfl (.tmp 67) (.tmp 67) 28 rfl w4.heap.size 3 i3 (.int .i64 0) 1 Try.underlying28 hi3 hz30 hz31 _ _ _ _ 0 rfl rfl (by omega) (by omega) (by omega) (by unfold maxLen; omega) (Nat.le_refl _) ?_; intro w5 hown5 hgrow5; have M5 := made_of hown5 hgrow5; clear hown5 hgrow5))
  refine wp_loop_rounds 1 ?_
  rw [rounds_succ]
  go_wp2
  go_ret
  have l1 := M1.size
  have l2 := M2.size
  have l4 := M4.size
  exact ⟨rfl, (((M1.below.trans (M2.below.mono (by omega))).trans (B3.mono (by omega))).trans (M4.below.mono (by omega))).trans (M5.below.mono (by omega))⟩

/-- WHAT THE WALK IS TOLD OF A SLICE OF INTEGERS THAT CAME IN. -/
def IsRow (k : IntKind) (w : World) (a : Option Addr) (len cap : Nat) (zs : List Int) : Prop :=
  (a = none ∧ len = 0 ∧ cap = 0 ∧ zs = []) ∨
  ∃ x, a = some x ∧ len ≤ cap ∧ cap ≤ maxLen ∧ zs.length = cap ∧ (∀ i, i < zs.length → w.cell? (x.add i) = some (.int k (zs.getD i 0))) ∧ ∀ n ∈ zs, (Lit.int k n).wf = true

/-- A slice that came in, that is not empty: its block, its numbers as a function. -/
theorem IsRow.view {w : World} {a : Option Addr} {len cap : Nat} {zs : List Int} (h : IsRow .i64 w a len cap zs) (hl : 0 < len) :
    ∃ b off, ∃ z : Nat → Int, a = some ⟨b, off, none⟩ ∧ (∀ i, i < len → w.cell? ⟨b, off + i, none⟩ = some (.int .i64 (z i))) ∧ ∀ i, len ≤ i → z i = 0 := by
  rcases h with ⟨_, h, _⟩ | ⟨x, rfl, h1, h2, h3, h4, h5⟩
  · omega
  · obtain ⟨b, off, sp⟩ := x
    have hsp : sp = none := by simpa [Addr.add] using World.cell?_spot (h4 0 (by omega))
    subst hsp
    refine ⟨b, off, fun i => if i < len then zs.getD i 0 else 0, rfl, fun i hi => ?_, fun i hi => ?_⟩
    · have := h4 i (by omega)
      simp only [hi, if_true]
      rw [← this, Addr.add_lit]
    · have : ¬ i < len := by omega
      simp [this]

end Go.Proofs.Qxb6628981a
