/-
  SEAT b6630001a: the walks of the two 'zzBytes_..' (functions 5 and 10): each answers some bool and turns nothing.
-/
import Derived.Test.Qxb6630001aRows
import Derived.Test.Qxb6630001aParts
namespace Go.Proofs.Qxb6630001a
open Go.RowKit

/-- It returned some bool. -/
def SomeBool (e : Ending) : Prop := ∃ r : Bool, e = .returned (.bool r)
theorem SomeBool.mk (r : Bool) : SomeBool (.returned (.bool r)) := ⟨r, rfl⟩

set_option maxHeartbeats 2000000 in
set_option maxRecDepth 10000 in
theorem bytes5_any (nm : ByteArray) (ra : Option Addr) (rn rc : Nat) (A : Nat → Option Addr) (L C : Nat → Nat) (l : Nat → Nat → ByteArray) (st : Int) (ta : Option Addr) (tn tc : Nat) (tl : Nat → ByteArray)
    (sa : Option Addr) (sn sc : Nat) (ca : Option Addr) (cn cc : Nat) (B : Nat) (w : World) (hnm : nm.size ≤ maxLen) (hr : RowsIn w B ra rn A L C l) (ht : StrsIn w B ta tn tl) (hs : sn ≤ maxLen) (hc : cn ≤ maxLen) :
    Calls Try.prog 5 #[.string nm, .slice ra rn rc, .int .i64 st, .slice ta tn tc, .slice sa sn sc, .slice ca cn cc] w fun e w' => SomeBool e ∧ w = w' := by
  have hrl := hr.len
  have htl := ht.len
  unfold maxLen at hnm hrl htl hs hc
  go_enter Try.func5, Try.ntmps5
  go_wp2
  all_goals (try (go_ret; first | exact ⟨SomeBool.mk false, rfl⟩ | exact ⟨SomeBool.mk true, rfl⟩))
  go_loop [13, 14] (fun z i => ∃ k s : Nat, k ≤ rn ∧ i = .int .i64 k ∧ z = .int .i64 s ∧ s ≤ 1048576) (fun _ i => rn - (intOf i).toNat)
  case atStart => exact ⟨0, nm.size + rn, by omega, rfl, by go_num, by omega⟩
  case round =>
    obtain ⟨k, s, hk, rfl, rfl, hs1⟩ := hrel
    by_cases hlt : k < rn
    · obtain ⟨b, off, rfl, hb, hcell⟩ := hr.row (by omega)
      have hx := hr.each k hlt
      have c1 := hcell k hlt
      have hxl := hx.len
      unfold maxLen at hxl
      clear hr ht hcell
      go_wp2
      all_goals (try (go_ret; first | exact ⟨SomeBool.mk false, rfl⟩ | exact ⟨SomeBool.mk true, rfl⟩))
      go_loop [13, 15] (fun z i => ∃ j s : Nat, j ≤ L k ∧ i = .int .i64 j ∧ z = .int .i64 s ∧ s ≤ 1048576) (fun _ i => L k - (intOf i).toNat)
      case atStart => exact ⟨0, s + L k, by omega, rfl, by go_num, by omega⟩
      case round =>
        obtain ⟨j, s2, hj, rfl, rfl, hs2⟩ := hrel
        by_cases hlt2 : j < L k
        · obtain ⟨b2, off2, ha2, hb2, hcell2⟩ := hx.row (by omega)
          have hstr := hx.str j hlt2
          have c2 := hcell2 j hlt2
          rw [ha2] at c1
          unfold maxLen at hstr
          clear hcell2 hx ha2
          go_wp2
          all_goals (try (go_ret; first | exact ⟨SomeBool.mk false, rfl⟩ | exact ⟨SomeBool.mk true, rfl⟩))
          go_round
          case rel => exact ⟨j + 1, s2 + (l k j).size, by omega, by go_num, by go_num, by omega⟩
          case measure => simp [intOf]; omega
        · clear hx
          go_wp2
          go_round
          case rel => exact ⟨k + 1, s2, by omega, by go_num, rfl, hs2⟩
          case measure => simp [intOf]; omega
    · clear hr
      go_wp2
      all_goals (try (go_ret; first | exact ⟨SomeBool.mk false, rfl⟩ | exact ⟨SomeBool.mk true, rfl⟩))
      go_loop [13, 16] (fun z i => ∃ j s : Nat, j ≤ tn ∧ i = .int .i64 j ∧ z = .int .i64 s ∧ s ≤ 1048576) (fun _ i => tn - (intOf i).toNat)
      case atStart => exact ⟨0, s + tn, by omega, rfl, by go_num, by omega⟩
      case round =>
        obtain ⟨j, s2, hj, rfl, rfl, hs2⟩ := hrel
        by_cases hlt2 : j < tn
        · obtain ⟨b2, off2, rfl, hb2, hcell2⟩ := ht.row (by omega)
          have hstr := ht.str j hlt2
          have c2 := hcell2 j hlt2
          unfold maxLen at hstr
          clear hcell2 ht
          go_wp2
          all_goals (try (go_ret; first | exact ⟨SomeBool.mk false, rfl⟩ | exact ⟨SomeBool.mk true, rfl⟩))
          go_round
          case rel => exact ⟨j + 1, s2 + (tl j).size, by omega, by go_num, by go_num, by omega⟩
          case measure => simp [intOf]; omega
        · clear ht
          go_wp2
          all_goals (try (go_ret; first | exact ⟨SomeBool.mk false, rfl⟩ | exact ⟨SomeBool.mk true, rfl⟩))

set_option maxHeartbeats 2000000 in
set_option maxRecDepth 10000 in
theorem bytes10_any (nm : ByteArray) (ra : Option Addr) (rn rc : Nat) (A : Nat → Option Addr) (L C : Nat → Nat) (l : Nat → Nat → ByteArray) (st ks : Int) (ta : Option Addr) (tn tc : Nat) (tl : Nat → ByteArray)
    (sa : Option Addr) (sn sc : Nat) (ca : Option Addr) (cn cc : Nat) (B : Nat) (w : World) (hnm : nm.size ≤ maxLen) (hr : RowsIn w B ra rn A L C l) (ht : StrsIn w B ta tn tl) (hs : sn ≤ maxLen) (hc : cn ≤ maxLen) :
    Calls Try.prog 10 #[.string nm, .slice ra rn rc, .int .i64 st, .int .i64 ks, .slice ta tn tc, .slice sa sn sc, .slice ca cn cc] w fun e w' => SomeBool e ∧ w = w' := by
  have hrl := hr.len
  have htl := ht.len
  unfold maxLen at hnm hrl htl hs hc
  go_enter Try.func10, Try.ntmps10
  go_wp2
  all_goals (try (go_ret; first | exact ⟨SomeBool.mk false, rfl⟩ | exact ⟨SomeBool.mk true, rfl⟩))
  go_loop [15, 16] (fun z i => ∃ k s : Nat, k ≤ rn ∧ i = .int .i64 k ∧ z = .int .i64 s ∧ s ≤ 1048576) (fun _ i => rn - (intOf i).toNat)
  case atStart => exact ⟨0, nm.size + rn, by omega, rfl, by go_num, by omega⟩
  case round =>
    obtain ⟨k, s, hk, rfl, rfl, hs1⟩ := hrel
    by_cases hlt : k < rn
    · obtain ⟨b, off, rfl, hb, hcell⟩ := hr.row (by omega)
      have hx := hr.each k hlt
      have c1 := hcell k hlt
      have hxl := hx.len
      unfold maxLen at hxl
      clear hr ht hcell
      go_wp2
      all_goals (try (go_ret; first | exact ⟨SomeBool.mk false, rfl⟩ | exact ⟨SomeBool.mk true, rfl⟩))
      go_loop [15, 17] (fun z i => ∃ j s : Nat, j ≤ L k ∧ i = .int .i64 j ∧ z = .int .i64 s ∧ s ≤ 1048576) (fun _ i => L k - (intOf i).toNat)
      case atStart => exact ⟨0, s + L k, by omega, rfl, by go_num, by omega⟩
      case round =>
        obtain ⟨j, s2, hj, rfl, rfl, hs2⟩ := hrel
        by_cases hlt2 : j < L k
        · obtain ⟨b2, off2, ha2, hb2, hcell2⟩ := hx.row (by omega)
          have hstr := hx.str j hlt2
          have c2 := hcell2 j hlt2
          rw [ha2] at c1
          unfold maxLen at hstr
          clear hcell2 hx ha2
          go_wp2
          all_goals (try (go_ret; first | exact ⟨SomeBool.mk false, rfl⟩ | exact ⟨SomeBool.mk true, rfl⟩))
          go_round
          case rel => exact ⟨j + 1, s2 + (l k j).size, by omega, by go_num, by go_num, by omega⟩
          case measure => simp [intOf]; omega
        · clear hx
          go_wp2
          go_round
          case rel => exact ⟨k + 1, s2, by omega, by go_num, rfl, hs2⟩
          case measure => simp [intOf]; omega
    · clear hr
      go_wp2
      all_goals (try (go_ret; first | exact ⟨SomeBool.mk false, rfl⟩ | exact ⟨SomeBool.mk true, rfl⟩))
      go_loop [15, 18] (fun z i => ∃ j s : Nat, j ≤ tn ∧ i = .int .i64 j ∧ z = .int .i64 s ∧ s ≤ 1048576) (fun _ i => tn - (intOf i).toNat)
      case atStart => exact ⟨0, s + tn, by omega, rfl, by go_num, by omega⟩
      case round =>
        obtain ⟨j, s2, hj, rfl, rfl, hs2⟩ := hrel
        by_cases hlt2 : j < tn
        · obtain ⟨b2, off2, rfl, hb2, hcell2⟩ := ht.row (by omega)
          have hstr := ht.str j hlt2
          have c2 := hcell2 j hlt2
          unfold maxLen at hstr
          clear hcell2 ht
          go_wp2
          all_goals (try (go_ret; first | exact ⟨SomeBool.mk false, rfl⟩ | exact ⟨SomeBool.mk true, rfl⟩))
          go_round
          case rel => exact ⟨j + 1, s2 + (tl j).size, by omega, by go_num, by go_num, by omega⟩
          case measure => simp [intOf]; omega
        · clear ht
          go_wp2
          all_goals (try (go_ret; first | exact ⟨SomeBool.mk false, rfl⟩ | exact ⟨SomeBool.mk true, rfl⟩))

end Go.Proofs.Qxb6630001a
