/-
  SEAT b6630001a: the walk of 'FnRelayCutsAtAnyStage' (function 4): outside its own bounds.
-/
import Derived.Test.Qxb6630001aEq
namespace Go.Proofs.Qxb6630001a
open Go.RowKit Ry

set_option maxHeartbeats 4000000 in
set_option maxRecDepth 10000 in
theorem law4_out (nm : ByteArray) (ra : Option Addr) (rn rc : Nat) (A : Nat → Option Addr) (L C : Nat → Nat) (l : Nat → Nat → ByteArray) (st ks : Int) (ta : Option Addr) (tn tc : Nat) (tl : Nat → ByteArray)
    (sa : Option Addr) (sn sc : Nat) (sf : Nat → Int) (ca : Option Addr) (cn cc : Nat) (cf : Nat → Int) (w : World) (hnm : nm.size ≤ maxLen)
    (hr : RowsIn w w.heap.size ra rn A L C l) (ht : StrsIn w w.heap.size ta tn tl) (hs : IntsIn w w.heap.size sa sn sf) (hc : IntsIn w w.heap.size ca cn cf)
    (hout : ¬ (sn = tn ∧ cn = tn ∧ 0 ≤ st ∧ st ≤ rn ∧ 0 ≤ ks ∧ ks ≤ st)) :
    Calls Try.prog 4 #[.string nm, .slice ra rn rc, .int .i64 st, .int .i64 ks, .slice ta tn tc, .slice sa sn sc, .slice ca cn cc] w fun e w' => e = .returned (.bool true) ∧ Below w.heap.size w w' := by
  have h5 := hide (bytes10_any nm ra rn rc A L C l st ks ta tn tc tl sa sn sc ca cn cc w.heap.size w hnm hr ht hs.len hc.len)
  have h6 := hide (size6_any nm ra rn rc A L C l ta tn tc tl sa sn sc ca cn cc w.heap.size w hnm hr ht)
  clear hr ht hs hc hnm
  go_enter Try.func4, Try.ntmps4
  go_wp2_with fail
  refine (unhide h5).mono ?_
  rintro e w' ⟨⟨r, rfl⟩, rfl⟩
  clear h5
  cases r
  · go_wp2
    go_ret
    exact ⟨rfl, Below.refl _ _⟩
  go_wp2_with fail
  refine (unhide h6).mono ?_
  rintro e w' ⟨⟨r, rfl, hfit⟩, rfl⟩
  clear h6 hfit
  cases r
  · go_wp2
    go_ret
    exact ⟨rfl, Below.refl _ _⟩
  by_cases e1 : sn = tn
  · subst e1
    by_cases e2 : cn = sn
    · subst e2
      by_cases e3 : st < 0
      · go_wp2
        go_ret
        exact ⟨rfl, Below.refl _ _⟩
      · by_cases e4 : (rn : Int) < st
        · go_wp2
          go_ret
          exact ⟨rfl, Below.refl _ _⟩
        · by_cases e5 : ks < 0
          · go_wp2
            go_ret
            exact ⟨rfl, Below.refl _ _⟩
          · have e6 : st < ks := by omega
            go_wp2
            go_ret
            exact ⟨rfl, Below.refl _ _⟩
    · have e2' : ((cn : Int) == (sn : Int)) = false := by simpa using fun h : (cn : Int) = sn => e2 (by omega)
      clear hout
      go_wp2
      go_ret
      exact ⟨rfl, Below.refl _ _⟩
  · have e1' : ((sn : Int) == (tn : Int)) = false := by simpa using fun h : (sn : Int) = tn => e1 (by omega)
    clear hout
    go_wp2
    go_ret
    exact ⟨rfl, Below.refl _ _⟩

end Go.Proofs.Qxb6630001a
