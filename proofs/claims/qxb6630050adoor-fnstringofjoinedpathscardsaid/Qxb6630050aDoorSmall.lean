/-
  SEAT b6630050aD: the walks of zzBytes (5, 11), addStepBytes (6), ZZnewPath (8), buildPath (7).
-/
import Derived.Test.Qxb6630050aDoorRows
import Derived.Test.Qxb6630050aDoorParts
import Derived.Deep.RegionHeld3
namespace Go.Proofs.Qxb6630050aDoor
open Go.RowKit

set_option maxHeartbeats 2000000 in
set_option maxRecDepth 10000 in
theorem bytes5_any (a : Option Addr) (n c : Nat) (f : Nat → Stp) (le : Bool) (ln : ByteArray) (lx : Int) (B : Nat) (w : World) (h : StepsIn w B a n f) (hB : B ≤ w.heap.size) (hln : ln.size ≤ maxLen) :
    Calls Tryd.prog 5 #[.slice a n c, .agg #[.bool le, .string ln, .int .i64 lx]] w fun e w' => SomeBool e ∧ Below w.heap.size w w' := by
  have hl := h.len
  unfold maxLen at hl hln
  have hbel : Below w.heap.size w (w.alloc (.cells #[.bool le, .string ln, .int .i64 lx] 24)) := (Below.refl _ _).alloc (Nat.le_refl _) _
  go_enter Tryd.func5, Tryd.ntmps5
  go_wp2
  all_goals (try (go_ret; first | exact ⟨SomeBool.mk false, hbel⟩ | exact ⟨SomeBool.mk true, hbel⟩))
  go_loop [5, 6] (fun z i => ∃ k s : Nat, k ≤ n ∧ i = .int .i64 k ∧ z = .int .i64 s ∧ s ≤ 1048576) (fun _ i => n - (intOf i).toNat)
  case atStart => exact ⟨0, n, by omega, rfl, by go_num, by omega⟩
  case round =>
    obtain ⟨k, s, hk, rfl, rfl, hs1⟩ := hrel
    by_cases hlt : k < n
    · obtain ⟨b, off, rfl, hb, hcell⟩ := h.row (by omega)
      have hx := (h.ok k hlt).name
      obtain ⟨_, c1, _⟩ := hcell k hlt
      unfold maxLen at hx
      have hbw : b < w.heap.size := by omega
      clear h hcell
      go_wp2
      all_goals (try (go_ret; first | exact ⟨SomeBool.mk false, hbel⟩ | exact ⟨SomeBool.mk true, hbel⟩))
      go_round
      case rel => exact ⟨k + 1, s + (f k).name.size, by omega, by go_num, by go_num, by omega⟩
      case measure => simp [intOf]; omega
    · clear h
      go_wp2
      all_goals (try (go_ret; first | exact ⟨SomeBool.mk false, hbel⟩ | exact ⟨SomeBool.mk true, hbel⟩))

set_option maxHeartbeats 2000000 in
set_option maxRecDepth 10000 in
theorem bytes11_any (a : Option Addr) (n c : Nat) (f : Nat → Stp) (a2 : Option Addr) (n2 c2 : Nat) (f2 : Nat → Stp) (B : Nat) (w : World) (h : StepsIn w B a n f) (h2 : StepsIn w B a2 n2 f2) :
    Calls Tryd.prog 11 #[.slice a n c, .slice a2 n2 c2] w fun e w' => SomeBool e ∧ w = w' := by
  have hl := h.len
  have hl2 := h2.len
  unfold maxLen at hl hl2
  go_enter Tryd.func11, Tryd.ntmps11
  go_wp2
  all_goals (try (go_ret; first | exact ⟨SomeBool.mk false, rfl⟩ | exact ⟨SomeBool.mk true, rfl⟩))
  go_loop [5, 6] (fun z i => ∃ k s : Nat, k ≤ n ∧ i = .int .i64 k ∧ z = .int .i64 s ∧ s ≤ 1048576) (fun _ i => n - (intOf i).toNat)
  case atStart => exact ⟨0, n, by omega, rfl, by go_num, by omega⟩
  case round =>
    obtain ⟨k, s, hk, rfl, rfl, hs1⟩ := hrel
    by_cases hlt : k < n
    · obtain ⟨b, off, rfl, hb, hcell⟩ := h.row (by omega)
      have hx := (h.ok k hlt).name
      obtain ⟨_, c1, _⟩ := hcell k hlt
      unfold maxLen at hx
      clear h hcell h2
      go_wp2
      all_goals (try (go_ret; first | exact ⟨SomeBool.mk false, rfl⟩ | exact ⟨SomeBool.mk true, rfl⟩))
      go_round
      case rel => exact ⟨k + 1, s + (f k).name.size, by omega, by go_num, by go_num, by omega⟩
      case measure => simp [intOf]; omega
    · clear h
      go_wp2
      all_goals (try (go_ret; first | exact ⟨SomeBool.mk false, rfl⟩ | exact ⟨SomeBool.mk true, rfl⟩))
      go_loop [5, 7] (fun z i => ∃ k s : Nat, k ≤ n2 ∧ i = .int .i64 k ∧ z = .int .i64 s ∧ s ≤ 1048576) (fun _ i => n2 - (intOf i).toNat)
      case atStart => exact ⟨0, s + n2, by omega, rfl, by go_num, by omega⟩
      case round =>
        obtain ⟨k2, s2, hk2, rfl, rfl, hs2⟩ := hrel
        by_cases hlt2 : k2 < n2
        · obtain ⟨b, off, rfl, hb, hcell⟩ := h2.row (by omega)
          have hx := (h2.ok k2 hlt2).name
          obtain ⟨_, c1, _⟩ := hcell k2 hlt2
          unfold maxLen at hx
          clear h2 hcell
          go_wp2
          all_goals (try (go_ret; first | exact ⟨SomeBool.mk false, rfl⟩ | exact ⟨SomeBool.mk true, rfl⟩))
          go_round
          case rel => exact ⟨k2 + 1, s2 + (f2 k2).name.size, by omega, by go_num, by go_num, by omega⟩
          case measure => simp [intOf]; omega
        · clear h2
          go_wp2
          all_goals (try (go_ret; first | exact ⟨SomeBool.mk false, rfl⟩ | exact ⟨SomeBool.mk true, rfl⟩))

/-- What 'addStepBytes' answers: some sum; where it says true, the sum of 32 a step and of the names. -/
def AddEnd (t0 n : Nat) (f : Nat → Stp) (e : Ending) : Prop := ∃ (t : Nat) (ok : Bool), e = .returned (.tuple #[.int .i64 t, .bool ok]) ∧ (ok = true → t ≤ 1048576 ∧ t = t0 + 32 * n + sumN (fun i => (f i).name.size) n)

set_option maxHeartbeats 2000000 in
set_option maxRecDepth 10000 in
theorem add6_any (t0 : Nat) (a : Option Addr) (n c : Nat) (f : Nat → Stp) (B : Nat) (w : World) (h : StepsIn w B a n f) (ht : t0 ≤ 1048576) :
    Calls Tryd.prog 6 #[.int .i64 t0, .slice a n c] w fun e w' => AddEnd t0 n f e ∧ w = w' := by
  have hl := h.len
  unfold maxLen at hl
  go_enter Tryd.func6, Tryd.ntmps6
  go_wp2
  go_loop [0, 6] (fun z i => ∃ k s : Nat, k ≤ n ∧ i = .int .i64 k ∧ z = .int .i64 s ∧ s ≤ 1048576 ∧ Hid (s = t0 + 32 * k + sumN (fun i => (f i).name.size) k)) (fun _ i => n - (intOf i).toNat)
  case atStart => exact ⟨0, t0, by omega, rfl, rfl, ht, hide (by simp [sumN])⟩
  case round =>
    obtain ⟨k, s, hk, rfl, rfl, hs1, hs2⟩ := hrel
    by_cases hlt : k < n
    · obtain ⟨b, off, rfl, hb, hcell⟩ := h.row (by omega)
      have hx := (h.ok k hlt).name
      obtain ⟨_, c1, _⟩ := hcell k hlt
      unfold maxLen at hx
      clear h hcell
      by_cases hn : 1048576 < (f k).name.size
      · go_wp2
        go_ret2
        exact ⟨⟨s, false, rfl, fun h => by cases h⟩, rfl⟩
      · by_cases hs3 : 1048576 < s + (32 + (f k).name.size)
        · go_wp2
          go_ret2
          exact ⟨⟨s + (32 + (f k).name.size), false, by go_num, fun h => by cases h⟩, rfl⟩
        · go_wp2
          go_round
          case rel => exact ⟨k + 1, s + (32 + (f k).name.size), by omega, by go_num, by go_num, by omega, hide (by have := hs2.out; simp only [sumN]; omega)⟩
          case measure => simp [intOf]; omega
    · obtain rfl : k = n := by omega
      clear h
      go_wp2
      go_ret2
      exact ⟨⟨s, true, rfl, fun _ => ⟨hs1, hs2.out⟩⟩, rfl⟩

theorem new8_any (q : Option Addr) (el : Bool) (nm : ByteArray) (ix : Int) (w : World) :
    Calls Tryd.prog 8 #[.pointer q, .bool el, .string nm, .int .i64 ix] w fun e w' => e = .returned (.pointer (some ⟨w.heap.size, 0, none⟩)) ∧
      (w'.cell? ⟨w.heap.size, 0, none⟩ = some (.pointer q) ∧ w'.cell? ⟨w.heap.size, 1, none⟩ = some (.bool el) ∧ w'.cell? ⟨w.heap.size, 2, none⟩ = some (.string nm) ∧ w'.cell? ⟨w.heap.size, 3, none⟩ = some (.int .i64 ix)) ∧
      Below w.heap.size w w' ∧ w.heap.size < w'.heap.size := by
  go_enter Tryd.func8, Tryd.ntmps8
  go_wp2
  go_ret
  exact ⟨rfl, ⟨by simp, by simp, by simp, by simp⟩, (Below.refl _ _).alloc (Nat.le_refl _) _, by simp⟩

/-- The steps sp, then the steps f. -/
def joinS (sp : Nat → Stp) (m : Nat) (f : Nat → Stp) : Nat → Stp := fun i => if i < m then sp i else f (i - m)

theorem path_congr {w : World} {B : Nat} {bk : Nat → Nat} {sp sp' : Nat → Stp} {N : Nat} (h : PathAt w B bk sp N) (hs : ∀ i, i < N → sp i = sp' i) : PathAt w B bk sp' N := fun i hi => by
  have hn := h i hi
  have e := hs i hi
  exact ⟨hn.lt, hn.up, by rw [← e]; exact hn.el, by rw [← e]; exact hn.name, by rw [← e]; exact hn.idx⟩

theorem build_round {wr w3 : World} {bk' : Nat → Nat} {sp f : Nat → Stp} {m k : Nat} (h : PathAt wr wr.heap.size bk' (joinS sp m f) (m + k)) (hb : Below wr.heap.size wr w3) (hz : wr.heap.size < w3.heap.size)
    (hc : w3.cell? ⟨wr.heap.size, 0, none⟩ = some (.pointer (ptrTo bk' (m + k))) ∧ w3.cell? ⟨wr.heap.size, 1, none⟩ = some (.bool (f k).el) ∧ w3.cell? ⟨wr.heap.size, 2, none⟩ = some (.string (f k).name) ∧ w3.cell? ⟨wr.heap.size, 3, none⟩ = some (.int .i64 (f k).idx)) :
    PathAt w3 w3.heap.size (snocB bk' (m + k) wr.heap.size) (joinS sp m f) (m + (k + 1)) := by
  refine path_congr (h.snoc hb hz (Nat.le_of_lt hz) hc.1 hc.2.1 hc.2.2.1 hc.2.2.2) (fun i hi => ?_)
  simp only [snocS]
  by_cases e : i = m + k
  · subst e
    have e1 : ¬ m + k < m := by omega
    simp [joinS, e1]
  · simp [e]

set_option maxHeartbeats 2000000 in
set_option maxRecDepth 10000 in
theorem build7_any (bk : Nat → Nat) (sp : Nat → Stp) (m : Nat) (a : Option Addr) (n c : Nat) (f : Nat → Stp) (B : Nat) (w : World) (h : StepsIn w B a n f) (hp : PathAt w B bk sp m) (hB : B ≤ w.heap.size) :
    Calls Tryd.prog 7 #[.pointer (ptrTo bk m), .slice a n c] w fun e w' => ∃ bk', e = .returned (.pointer (ptrTo bk' (m + n))) ∧ PathAt w' w'.heap.size bk' (joinS sp m f) (m + n) ∧ (∀ i, i < m → bk' i = bk i) ∧ Below w.heap.size w w' := by
  have hl := h.len
  unfold maxLen at hl
  have HP := hide hp
  have H := hide h
  clear hp h
  go_enter Tryd.func7, Tryd.ntmps7
  go_wp2
  go_loopw [5, 6] (fun p i wr => ∃ (k : Nat) (bk' : Nat → Nat), k ≤ n ∧ i = .int .i64 k ∧ p = .pointer (ptrTo bk' (m + k)) ∧ Hid (PathAt wr wr.heap.size bk' (joinS sp m f) (m + k)) ∧ Hid (∀ i, i < m → bk' i = bk i) ∧ Below w.heap.size w wr) (fun _ i _ => n - (intOf i).toNat)
  case atStart => exact ⟨0, bk, by omega, rfl, rfl, hide (path_congr (HP.out.mono hB) (fun i hi => by have hi' : i < m := hi; simp [joinS, hi'])), hide (fun _ _ => rfl), Below.refl _ _⟩
  case round =>
    obtain ⟨k, bk', hk, rfl, rfl, hpk, hbk, hbel⟩ := hrel
    by_cases hlt : k < n
    · obtain ⟨b, off, rfl, hb, hcell⟩ := H.out.row (by omega)
      have hbw : b < w.heap.size := by omega
      obtain ⟨d1, d2, d3⟩ := hcell k hlt
      have e1 := (hbel.cell (p := ⟨b, off + k * 3, none⟩) hbw).trans d1
      have e2 := (hbel.cell (p := ⟨b, off + k * 3 + 1, none⟩) hbw).trans d2
      have e3 := (hbel.cell (p := ⟨b, off + k * 3 + 2, none⟩) hbw).trans d3
      have i1 : (0 : Int) ≤ (k : Int) := by omega
      have i2 : (k : Int) < (n : Int) := by omega
      clear hcell d1 d2 d3
      go_wp2
      go_region_held3 (fun w' => w'.cell? ⟨b, off + k * 3, none⟩ = some (.bool (f k).el) ∧ w'.cell? ⟨b, off + k * 3 + 1, none⟩ = some (.string (f k).name) ∧ w'.cell? ⟨b, off + k * 3 + 2, none⟩ = some (.int .i64 (f k).idx)) (first | assumption | go_keep) (first | (go_at_call 8; refine (new8_any _ _ _ _ _).mono ?_; rintro e w3 ⟨rfl, hc3, hb3, hz3⟩; have q3 : w3.cell? ⟨b, off + k * 3, none⟩ = some (.bool (f k).el) ∧ w3.cell? ⟨b, off + k * 3 + 1, none⟩ = some (.string (f k).name) ∧ w3.cell? ⟨b, off + k * 3 + 2, none⟩ = some (.int .i64 (f k).idx) := ⟨(hb3.cell (p := ⟨b, off + k * 3, none⟩) (by show b < wr.heap.size; have := hbel.size; omega)).trans e1, (hb3.cell (p := ⟨b, off + k * 3 + 1, none⟩) (by show b < wr.heap.size; have := hbel.size; omega)).trans e2, (hb3.cell (p := ⟨b, off + k * 3 + 2, none⟩) (by show b < wr.heap.size; have := hbel.size; omega)).trans e3⟩))
      have hbb : Below wr.heap.size wr w3 := (Below.refl _ wr).drew.trans hb3
      have hz3' : wr.heap.size < w3.heap.size := hz3
      have P3 := hide (build_round hpk.out hbb hz3' hc3)
      have HB3 := hide hbb
      clear hc3 hb3 q3 hbb
      go_wp2
      go_roundw
      case rel => exact ⟨k + 1, snocB bk' (m + k) wr.heap.size, by omega, by go_num, by rw [← Nat.add_assoc, ptrTo_succ]; simp [snocB], P3, hide (fun i hi => by rw [← hbk.out i hi]; simp [snocB]; omega), hbel.trans (HB3.out.mono hbel.size)⟩
      case measure => simp [intOf]; omega
    · obtain rfl : k = n := by omega
      go_wp2
      go_ret
      exact ⟨bk', rfl, hpk.out, hbk.out, hbel⟩

end Go.Proofs.Qxb6630050aDoor
