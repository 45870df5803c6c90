/-
  SEAT b6630001a: the walk of 'zzRelayCount' (function 9).
-/
import Derived.Test.Qxb6630001aSize
import Derived.Test.Qxb6630001aMath
namespace Go.Proofs.Qxb6630001a
open Go.RowKit Ry

theorem ret_int {k : IntKind} {a b : Int} (h : a = b) : Ending.returned (.int k a) = .returned (.int k b) := by rw [h]

set_option maxHeartbeats 2000000 in
set_option maxRecDepth 10000 in
theorem count9_any (nm : ByteArray) (ra : Option Addr) (rn rc : Nat) (A : Nat → Option Addr) (L C : Nat → Nat) (l : Nat → Nat → ByteArray) (lo hi : Nat) (B : Nat) (w : World)
    (hr : RowsIn w B ra rn A L C l) (hlo : lo ≤ hi) (hhi : hi ≤ rn) (hrn : rn ≤ 65536) (hsum : sumN L rn ≤ 65536) :
    Calls Try.prog 9 #[.string nm, .slice ra rn rc, .int .i64 lo, .int .i64 hi] w fun e w' => e = .returned (.int .i64 (count nm L l lo (hi - lo))) ∧ w = w' := by
  go_enter Try.func9, Try.ntmps9
  go_wp2
  go_loop [9, 10] (fun c i => ∃ d q : Nat, lo + d ≤ hi ∧ i = .int .i64 (lo + d : Nat) ∧ c = .int .i64 q ∧ Hid (q = count nm L l lo d) ∧ q ≤ sumN L (lo + d)) (fun _ i => hi - (intOf i).toNat)
  case atStart => exact ⟨0, 0, by omega, by go_num, rfl, rfl, by omega⟩
  case round =>
    obtain ⟨d, q, hd, rfl, rfl, hq, hqs⟩ := hrel
    by_cases hlt : lo + d < hi
    · obtain ⟨b, off, rfl, hb, hcell⟩ := hr.row (by omega)
      obtain ⟨k, hk⟩ : ∃ k, k = lo + d := ⟨_, rfl⟩
      have hx := hr.each k (by omega)
      have c1 := hcell k (by omega)
      rw [← hk] at hqs hlt ⊢
      obtain ⟨ak, hak⟩ : ∃ ak, ak = A k := ⟨_, rfl⟩
      rw [← hak] at c1 hx
      have HK := hide hk
      have hLk : L k ≤ 65536 := by have := sumN_le L (k := k) (n := rn) (by omega); omega
      have hqk : q ≤ 65536 := by have := sumN_mono L (a := k) (b := rn) (by omega); omega
      clear hr hcell hak hk
      go_wp2
      go_loop [9, 12] (fun c i => ∃ j q2 : Nat, j ≤ L k ∧ i = .int .i64 j ∧ c = .int .i64 q2 ∧ Hid (q2 = q + (rowMsgs nm k (l k) j).length) ∧ q2 ≤ q + j) (fun _ i => L k - (intOf i).toNat)
      case atStart => exact ⟨0, q, by omega, rfl, rfl, rfl, by omega⟩
      case round =>
        obtain ⟨j, q2, hj, rfl, rfl, hq2, hq3⟩ := hrel
        by_cases hlt2 : j < L k
        · obtain ⟨b2, off2, rfl, hb2, hcell2⟩ := hx.row (by omega)
          have c2 := hcell2 j hlt2
          clear hcell2 hx c1
          go_wp2
          · have ho : other nm (l k j) = true := by assumption
            go_round
            case rel => exact ⟨j + 1, q2 + 1, by omega, by go_num, by go_num, by rw [Hid, rowMsgs_yes ho, hq2.out]; simp; omega, by omega⟩
            case measure => simp [intOf]; omega
          · have ho : other nm (l k j) = false := by assumption
            go_round
            case rel => exact ⟨j + 1, q2, by omega, by go_num, rfl, by rw [Hid, rowMsgs_no ho, hq2.out], by omega⟩
            case measure => simp [intOf]; omega
        · obtain rfl : j = L k := by omega
          go_wp2
          go_round
          case rel => exact ⟨d + 1, q2, by have := HK.out; omega, by rw [HK.out]; go_num, rfl, by rw [Hid, count, ← HK.out, ← hq.out]; exact hq2.out, by rw [show lo + (d + 1) = k + 1 from by have := HK.out; omega]; simp only [sumN]; omega⟩
          case measure => simp [intOf]; omega
    · go_wp2
      go_ret
      exact ⟨ret_int (a := (q : Int)) (by rw [hq.out, show hi - lo = d from by omega]), rfl⟩

end Go.Proofs.Qxb6630001a
