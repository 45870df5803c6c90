/-
  SEAT b6630001a: the walk of 'zzRelaySizeOK' (function 6): some bool; where it is true the lengths are small.
-/
import Derived.Test.Qxb6630001aBytes
import Derived.Test.Qxb6630001aMath
namespace Go.Proofs.Qxb6630001a
open Go.RowKit Ry

/-- It returned some bool; where that is true, P holds. -/
def BoolWith (P : Prop) (e : Ending) : Prop := ∃ r : Bool, e = .returned (.bool r) ∧ (r = true → P)
theorem BoolWith.no {P : Prop} : BoolWith P (.returned (.bool false)) := ⟨false, rfl, fun h => by cases h⟩
theorem BoolWith.yes {P : Prop} (h : P) : BoolWith P (.returned (.bool true)) := ⟨true, rfl, fun _ => h⟩

/-- What 'zzRelaySizeOK' says, as far as it is wanted. -/
def SizeFits (rn tn : Nat) (L : Nat → Nat) : Prop := rn ≤ 65536 ∧ sumN L rn ≤ 65536 ∧ tn ≤ 65536

theorem size6_big (nm : ByteArray) (ra : Option Addr) (rn rc : Nat) (ta : Option Addr) (tn tc : Nat) (sa : Option Addr) (sn sc : Nat) (ca : Option Addr) (cn cc : Nat) (w : World)
    (hnm : nm.size ≤ maxLen) (h : ¬ (nm.size ≤ 1048576 ∧ rn ≤ 1048576 ∧ tn ≤ 1048576 ∧ sn ≤ 1048576 ∧ cn ≤ 1048576)) :
    Calls Try.prog 6 #[.string nm, .slice ra rn rc, .slice ta tn tc, .slice sa sn sc, .slice ca cn cc] w fun e w' => e = .returned (.bool false) ∧ w = w' := by
  unfold maxLen at hnm
  by_cases h1 : 1048576 < nm.size
  · clear h
    go_enter Try.func6, Try.ntmps6
    go_wp2
    go_ret
    exact ⟨rfl, rfl⟩
  by_cases h2 : 1048576 < rn
  · clear h
    go_enter Try.func6, Try.ntmps6
    go_wp2
    go_ret
    exact ⟨rfl, rfl⟩
  by_cases h3 : 1048576 < tn
  · clear h
    go_enter Try.func6, Try.ntmps6
    go_wp2
    go_ret
    exact ⟨rfl, rfl⟩
  by_cases h4 : 1048576 < sn
  · clear h
    go_enter Try.func6, Try.ntmps6
    go_wp2
    go_ret
    exact ⟨rfl, rfl⟩
  have h5 : 1048576 < cn := by omega
  clear h
  go_enter Try.func6, Try.ntmps6
  go_wp2
  go_ret
  exact ⟨rfl, rfl⟩

set_option maxHeartbeats 2000000 in
set_option maxRecDepth 10000 in
theorem size6_main (nm : ByteArray) (ra : Option Addr) (rn rc : Nat) (A : Nat → Option Addr) (L C : Nat → Nat) (l : Nat → Nat → ByteArray) (ta : Option Addr) (tn tc : Nat) (tl : Nat → ByteArray)
    (sa : Option Addr) (sn sc : Nat) (ca : Option Addr) (cn cc : Nat) (B : Nat) (w : World) (hr : RowsIn w B ra rn A L C l) (ht : StrsIn w B ta tn tl)
    (hnm : nm.size ≤ 1048576) (hrn : rn ≤ 1048576) (htn : tn ≤ 1048576) (hsn : sn ≤ 1048576) (hcn : cn ≤ 1048576) :
    Calls Try.prog 6 #[.string nm, .slice ra rn rc, .slice ta tn tc, .slice sa sn sc, .slice ca cn cc] w fun e w' => BoolWith (SizeFits rn tn L) e ∧ w = w' := by
  go_enter Try.func6, Try.ntmps6
  go_wp2
  all_goals (try (go_ret; exact ⟨BoolWith.no, rfl⟩))
  go_loop [11, 12] (fun z i => ∃ k s : Nat, k ≤ rn ∧ i = .int .i64 k ∧ z = .int .i64 s ∧ s ≤ 1048576 ∧ 24 * rn + 16 * sumN L k ≤ s) (fun _ i => rn - (intOf i).toNat)
  case atStart => exact ⟨0, nm.size + 24 * rn, by omega, rfl, by go_num, by omega, by simp [sumN]⟩
  case round =>
    obtain ⟨k, s, hk, rfl, rfl, hs1, hs0⟩ := hrel
    by_cases hlt : k < rn
    · obtain ⟨b, off, rfl, hb, hcell⟩ := hr.row (by omega)
      have hx := hr.each k hlt
      have c1 := hcell k hlt
      have hxl := hx.len
      obtain ⟨ak, hak⟩ : ∃ ak, ak = A k := ⟨_, rfl⟩
      rw [← hak] at c1 hx
      have hsum : sumN L (k + 1) = sumN L k + L k := rfl
      obtain ⟨S1, hS1⟩ : ∃ S1, S1 = sumN L (k + 1) := ⟨_, rfl⟩
      have hs0' : 24 * rn + 16 * S1 ≤ s + 16 * L k := by omega
      have HS1 := hide hS1
      unfold maxLen at hxl
      clear hr ht hcell hak hsum hS1 hs0
      go_wp2
      all_goals (try (go_ret; exact ⟨BoolWith.no, rfl⟩))
      go_loop [11, 14] (fun z i => ∃ j s : Nat, j ≤ L k ∧ i = .int .i64 j ∧ z = .int .i64 s ∧ s ≤ 1048576 ∧ 24 * rn + 16 * S1 ≤ s) (fun _ i => L k - (intOf i).toNat)
      case atStart => exact ⟨0, s + 16 * L k, by omega, rfl, by go_num, by omega, by omega⟩
      case round =>
        obtain ⟨j, s2, hj, rfl, rfl, hs2, hs3⟩ := hrel
        by_cases hlt2 : j < L k
        · obtain ⟨b2, off2, rfl, hb2, hcell2⟩ := hx.row (by omega)
          have hstr := hx.str j hlt2
          have c2 := hcell2 j hlt2
          unfold maxLen at hstr
          clear hcell2 hx c1
          go_wp2
          all_goals (try (go_ret; exact ⟨BoolWith.no, rfl⟩))
          go_round
          case rel => exact ⟨j + 1, s2 + (l k j).size, by omega, by go_num, by go_num, by omega, by omega⟩
          case measure => simp [intOf]; omega
        · clear hx
          go_wp2
          go_round
          case rel => exact ⟨k + 1, s2, by omega, by go_num, rfl, hs2, by rw [← unhide HS1]; exact hs3⟩
          case measure => simp [intOf]; omega
    · obtain rfl : k = rn := by omega
      clear hr
      go_wp2
      all_goals (try (go_ret; exact ⟨BoolWith.no, rfl⟩))
      go_loop [11, 15] (fun z i => ∃ j s : Nat, j ≤ tn ∧ i = .int .i64 j ∧ z = .int .i64 s ∧ s ≤ 1048576 ∧ 24 * k + 16 * sumN L k + 16 * tn ≤ s) (fun _ i => tn - (intOf i).toNat)
      case atStart => exact ⟨0, s + 16 * tn, by omega, rfl, by go_num, by omega, by omega⟩
      case round =>
        obtain ⟨j, s2, hj, rfl, rfl, hs2, hs3⟩ := hrel
        by_cases hlt2 : j < tn
        · obtain ⟨b2, off2, rfl, hb2, hcell2⟩ := ht.row (by omega)
          have hstr := ht.str j hlt2
          have c2 := hcell2 j hlt2
          unfold maxLen at hstr
          clear hcell2 ht
          go_wp2
          all_goals (try (go_ret; exact ⟨BoolWith.no, rfl⟩))
          go_round
          case rel => exact ⟨j + 1, s2 + (tl j).size, by omega, by go_num, by go_num, by omega, by omega⟩
          case measure => simp [intOf]; omega
        · clear ht
          have HF : Hid (SizeFits k tn L) := by unfold Hid SizeFits; omega
          go_wp2
          all_goals (try (go_ret; exact ⟨BoolWith.no, rfl⟩))
          go_ret
          exact ⟨BoolWith.yes HF.out, rfl⟩

theorem size6_any (nm : ByteArray) (ra : Option Addr) (rn rc : Nat) (A : Nat → Option Addr) (L C : Nat → Nat) (l : Nat → Nat → ByteArray) (ta : Option Addr) (tn tc : Nat) (tl : Nat → ByteArray)
    (sa : Option Addr) (sn sc : Nat) (ca : Option Addr) (cn cc : Nat) (B : Nat) (w : World) (hnm : nm.size ≤ maxLen) (hr : RowsIn w B ra rn A L C l) (ht : StrsIn w B ta tn tl) :
    Calls Try.prog 6 #[.string nm, .slice ra rn rc, .slice ta tn tc, .slice sa sn sc, .slice ca cn cc] w fun e w' => BoolWith (SizeFits rn tn L) e ∧ w = w' := by
  by_cases h : nm.size ≤ 1048576 ∧ rn ≤ 1048576 ∧ tn ≤ 1048576 ∧ sn ≤ 1048576 ∧ cn ≤ 1048576
  · obtain ⟨h1, h2, h3, h4, h5⟩ := h
    exact size6_main nm ra rn rc A L C l ta tn tc tl sa sn sc ca cn cc B w hr ht h1 h2 h3 h4 h5
  · refine (size6_big nm ra rn rc ta tn tc sa sn sc ca cn cc w hnm h).mono ?_
    rintro e w' ⟨rfl, hw⟩
    exact ⟨BoolWith.no, hw⟩

end Go.Proofs.Qxb6630001a
