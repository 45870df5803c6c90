/-
  SEAT b6630001a: messages that are read; the walk of 'zzRelayEq' (function 11).
-/
import Derived.Test.Qxb6630001aRelay
import Derived.Laws.StructEq
namespace Go.Proofs.Qxb6630001a
open Go.RowKit Ry

/-- No message. -/
def dm : Msg := (ByteArray.empty, 0, 0)

/-- n messages f 0, f 1, .. lie at a, below block B. -/
def MsgsIn (w : World) (B : Nat) (a : Option Addr) (n : Nat) (f : Nat → Msg) : Prop :=
  0 < n → ∃ g, a = some ⟨g, 0, none⟩ ∧ g < B ∧ ∀ i, i < n → w.cell? ⟨g, i * 3, none⟩ = some (.string (f i).1) ∧ w.cell? ⟨g, i * 3 + 1, none⟩ = some (.int .i64 (f i).2.1) ∧ w.cell? ⟨g, i * 3 + 2, none⟩ = some (.int .i64 (f i).2.2)

theorem cellsM_get (ms : List Msg) : ∀ i, i < ms.length → (cellsM ms)[i * 3]? = some (.string (ms.getD i dm).1) ∧ (cellsM ms)[i * 3 + 1]? = some (.int .i64 (ms.getD i dm).2.1) ∧ (cellsM ms)[i * 3 + 2]? = some (.int .i64 (ms.getD i dm).2.2) := by
  induction ms with
  | nil => intro i hi; simp at hi
  | cons m ms ih =>
    intro i hi
    have e : cellsM (m :: ms) = .string m.1 :: .int .i64 m.2.1 :: .int .i64 m.2.2 :: cellsM ms := rfl
    rw [e]
    cases i with
    | zero => simp
    | succ i =>
      have := ih i (by simpa using hi)
      rw [show (i + 1) * 3 = i * 3 + 3 by omega]
      simpa using this

theorem msgs_of {w : World} {B : Nat} {a : Option Addr} {n c : Nat} {ms : List Msg} (h : w.ownsRow B 33 3 (.slice a n c) n (cellsM ms)) : n = ms.length ∧ MsgsIn w w.heap.size a n (fun i => ms.getD i dm) := by
  have hl := h.1
  rw [cellsM_len] at hl
  have hn : n = ms.length := by omega
  refine ⟨hn, fun hp => ?_⟩
  rcases h.2 with ⟨_, h1⟩ | ⟨g, cap, cur, h1, hb, hh, _⟩
  · omega
  · simp only [Value.slice.injEq, true_and] at h1
    obtain ⟨rfl, rfl⟩ := h1
    refine ⟨g, rfl, lt_of_block hh, fun i hi => ?_⟩
    have := cellsM_get ms i (by omega)
    exact ⟨(h.cellAt (i * 3) (by omega)).trans this.1, (h.cellAt (i * 3 + 1) (by omega)).trans this.2.1, (h.cellAt (i * 3 + 2) (by omega)).trans this.2.2⟩

theorem MsgsIn.below {w w' : World} {B B' : Nat} {a : Option Addr} {n : Nat} {f : Nat → Msg} (h : MsgsIn w B a n f) (hb : Below B' w w') (hB : B ≤ B') : MsgsIn w' B a n f := fun hp => by
  obtain ⟨g, h1, h2, h3⟩ := h hp
  refine ⟨g, h1, h2, fun i hi => ?_⟩
  obtain ⟨e1, e2, e3⟩ := h3 i hi
  have hg : g < B' := by omega
  exact ⟨(hb.cell (p := ⟨g, i * 3, none⟩) hg).trans e1, (hb.cell (p := ⟨g, i * 3 + 1, none⟩) hg).trans e2, (hb.cell (p := ⟨g, i * 3 + 2, none⟩) hg).trans e3⟩
theorem MsgsIn.mono {w : World} {B B' : Nat} {a : Option Addr} {n : Nat} {f : Nat → Msg} (h : MsgsIn w B a n f) (hB : B ≤ B') : MsgsIn w B' a n f := fun hp => by
  obtain ⟨g, h1, h2, h3⟩ := h hp
  exact ⟨g, h1, by omega, h3⟩

set_option maxHeartbeats 1000000 in
set_option maxRecDepth 10000 in
theorem eq11_any (a1 a2 : Option Addr) (n c1 c2 B : Nat) (f : Nat → Msg) (w : World) (h1 : MsgsIn w B a1 n f) (h2 : MsgsIn w B a2 n f) (hn : n ≤ 1000000) :
    Calls Try.prog 11 #[.slice a1 n c1, .slice a2 n c2] w fun e w' => e = .returned (.bool true) ∧ ∃ q, w' = w.drewN q := by
  go_enter Try.func11, Try.ntmps11
  go_wp2
  go_loopw [5] (fun i wr => ∃ k q : Nat, k ≤ n ∧ i = .int .i64 k ∧ wr = w.drewN q) (fun i _ => n - (intOf i).toNat)
  case atStart => exact ⟨0, 0, by omega, rfl, rfl⟩
  case round =>
    obtain ⟨k, q, hk, rfl, rfl⟩ := hrel
    by_cases hlt : k < n
    · obtain ⟨g1, rfl, _, hc1⟩ := h1 (by omega)
      obtain ⟨g2, rfl, _, hc2⟩ := h2 (by omega)
      obtain ⟨d1, d2, d3⟩ := hc1 k hlt
      obtain ⟨e1, e2, e3⟩ := hc2 k hlt
      clear h1 h2 hc1 hc2
      go_wp2
      go_quiet (fail)
      go_wp2
      go_roundw
      case rel => exact ⟨k + 1, q + nq, by omega, by go_num, rfl⟩
      case measure => simp [intOf]; omega
    · go_wp2
      go_ret
      exact ⟨rfl, q, rfl⟩

end Go.Proofs.Qxb6630001a
