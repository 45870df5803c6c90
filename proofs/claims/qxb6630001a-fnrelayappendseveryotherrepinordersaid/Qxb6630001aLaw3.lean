/-
  SEAT b6630001a: the walk of 'FnRelayAppendsEveryOtherRepInOrder' (function 3).
-/
import Derived.Test.Qxb6630001aEq
import Derived.Deep.RegionHeld3
namespace Go.Proofs.Qxb6630001a
open Go.RowKit Ry

set_option maxHeartbeats 4000000 in
set_option maxRecDepth 10000 in
theorem law3_out (nm : ByteArray) (ra : Option Addr) (rn rc : Nat) (A : Nat → Option Addr) (L C : Nat → Nat) (l : Nat → Nat → ByteArray) (st : Int) (ta : Option Addr) (tn tc : Nat) (tl : Nat → ByteArray)
    (sa : Option Addr) (sn sc : Nat) (sf : Nat → Int) (ca : Option Addr) (cn cc : Nat) (cf : Nat → Int) (w : World) (hnm : nm.size ≤ maxLen)
    (hr : RowsIn w w.heap.size ra rn A L C l) (ht : StrsIn w w.heap.size ta tn tl) (hs : IntsIn w w.heap.size sa sn sf) (hc : IntsIn w w.heap.size ca cn cf)
    (hout : ¬ (sn = tn ∧ cn = tn ∧ 0 ≤ st ∧ st ≤ rn)) :
    Calls Try.prog 3 #[.string nm, .slice ra rn rc, .int .i64 st, .slice ta tn tc, .slice sa sn sc, .slice ca cn cc] w fun e w' => e = .returned (.bool true) ∧ Below w.heap.size w w' := by
  have h5 := hide (bytes5_any nm ra rn rc A L C l st ta tn tc tl sa sn sc ca cn cc w.heap.size w hnm hr ht hs.len hc.len)
  have h6 := hide (size6_any nm ra rn rc A L C l ta tn tc tl sa sn sc ca cn cc w.heap.size w hnm hr ht)
  clear hr ht hs hc hnm
  go_enter Try.func3, Try.ntmps3
  go_wp2_with fail
  refine (unhide h5).mono ?_
  rintro e w' ⟨⟨r, rfl⟩, rfl⟩
  clear h5
  cases r
  · go_wp2
    go_ret
    exact ⟨rfl, Below.refl _ _⟩
  go_wp2_with fail
  refine (unhide h6).mono ?_
  rintro e w' ⟨⟨r, rfl, hfit⟩, rfl⟩
  clear h6 hfit
  cases r
  · go_wp2
    go_ret
    exact ⟨rfl, Below.refl _ _⟩
  by_cases e1 : sn = tn
  · subst e1
    by_cases e2 : cn = sn
    · subst e2
      by_cases e3 : st < 0
      · go_wp2
        go_ret
        exact ⟨rfl, Below.refl _ _⟩
      · have e4 : (rn : Int) < st := by omega
        go_wp2
        go_ret
        exact ⟨rfl, Below.refl _ _⟩
    · have e2' : ((cn : Int) == (sn : Int)) = false := by simpa using fun h : (cn : Int) = sn => e2 (by omega)
      clear hout
      go_wp2
      go_ret
      exact ⟨rfl, Below.refl _ _⟩
  · have e1' : ((sn : Int) == (tn : Int)) = false := by simpa using fun h : (sn : Int) = tn => e1 (by omega)
    clear hout
    go_wp2
    go_ret
    exact ⟨rfl, Below.refl _ _⟩

theorem Below.drewN' {B : Nat} {a w : World} (h : Below B a w) (n : Nat) : Below B a (w.drewN n) := ⟨h.os, h.tape, h.output, h.size, h.block⟩

theorem getD_two (a b : List Msg) (d : Msg) (i n : Nat) (hn : a.length = n) : (a ++ b).getD i d = if i < n then a.getD i d else b.getD (i - n) d := by
  subst hn
  by_cases h : i < a.length
  · rw [if_pos h, List.getD_eq_getElem?_getD, List.getD_eq_getElem?_getD, List.getElem?_append_left h]
  · rw [if_neg h, List.getD_eq_getElem?_getD, List.getD_eq_getElem?_getD, List.getElem?_append_right (by omega)]

theorem MsgsIn.congr {w : World} {B : Nat} {a : Option Addr} {n n' : Nat} {f f' : Nat → Msg} (h : MsgsIn w B a n f) (hn : n' = n) (hf : ∀ i, i < n → f i = f' i) : MsgsIn w B a n' f' := by
  subst hn
  intro hp
  obtain ⟨g, h1, h2, h3⟩ := h hp
  exact ⟨g, h1, h2, fun i hi => by rw [← hf i hi]; exact h3 i hi⟩

/-- What the three loops of the first law read. -/
structure Tail3 (w w5 : World) (pa ga ba : Option Addr) (n m : Nat) (fp fb : Nat → Msg) (ra : Option Addr) (rn : Nat) (A : Nat → Option Addr) (L C : Nat → Nat) (l : Nat → Nat → ByteArray) : Prop where
  below : Below w.heap.size w w5
  pre : MsgsIn w5 w5.heap.size pa n fp
  got : MsgsIn w5 w5.heap.size ga (n + m) (fun i => if i < n then fp i else fb (i - n))
  bare : MsgsIn w5 w5.heap.size ba m fb
  rows : RowsIn w5 w5.heap.size ra rn A L C l

theorem tail3_of {w w2 w4 w5 : World} {pa ga ba : Option Addr} {n gq bq : Nat} {g : Nat → Msg} {R : List Msg} {ra : Option Addr} {rn : Nat} {A : Nat → Option Addr} {L C : Nat → Nat} {l : Nat → Nat → ByteArray}
    (hgq : gq = n + R.length) (hbq : bq = 0 + R.length) (hr : RowsIn w w.heap.size ra rn A L C l) (hbw4 : Below w.heap.size w w4)
    (M2 : MsgsIn w2 w2.heap.size pa n (fun i => ((List.range n).map g).getD i dm)) (h24 : Below w2.heap.size w2 w4)
    (M4 : MsgsIn w4 w4.heap.size ga gq (fun i => ((List.range n).map g ++ R).getD i dm)) (hb5 : Below w4.heap.size w4 w5) (M5 : MsgsIn w5 w5.heap.size ba bq (fun i => ([] ++ R).getD i dm)) :
    Tail3 w w5 pa ga ba n bq (fun i => ((List.range n).map g).getD i dm) (fun i => R.getD i dm) ra rn A L C l := by
  have z1 := hbw4.size
  have z2 := h24.size
  have z3 := hb5.size
  refine ⟨hbw4.trans (hb5.mono z1), ?_, ?_, ?_, ?_⟩
  · exact ((M2.below h24 (Nat.le_refl _)).mono z2 |>.below hb5 (Nat.le_refl _)).mono z3
  · refine ((M4.below hb5 (Nat.le_refl _)).mono z3).congr (by omega) (fun i _ => getD_two _ _ _ _ _ (by simp))
  · exact M5.congr rfl (fun i _ => by simp)
  · exact ((hr.below hbw4 (Nat.le_refl _)).mono z1 |>.below hb5 (Nat.le_refl _)).mono z3

set_option maxHeartbeats 4000000 in
set_option maxRecDepth 10000 in
theorem law3_in (nm : ByteArray) (ra : Option Addr) (rn rc : Nat) (A : Nat → Option Addr) (L C : Nat → Nat) (l : Nat → Nat → ByteArray) (st : Nat) (ta : Option Addr) (tn tc : Nat) (tl : Nat → ByteArray)
    (sa : Option Addr) (sc : Nat) (sf : Nat → Int) (ca : Option Addr) (cc : Nat) (cf : Nat → Int) (w : World) (hnm : nm.size ≤ maxLen)
    (hr : RowsIn w w.heap.size ra rn A L C l) (ht : StrsIn w w.heap.size ta tn tl) (hs : IntsIn w w.heap.size sa tn sf) (hc : IntsIn w w.heap.size ca tn cf) (hst : st ≤ rn) :
    Calls Try.prog 3 #[.string nm, .slice ra rn rc, .int .i64 st, .slice ta tn tc, .slice sa tn sc, .slice ca tn cc] w fun e w' => e = .returned (.bool true) ∧ Below w.heap.size w w' := by
  have h5 := hide (bytes5_any nm ra rn rc A L C l st ta tn tc tl sa tn sc ca tn cc w.heap.size w hnm hr ht hs.len hc.len)
  have h6 := hide (size6_any nm ra rn rc A L C l ta tn tc tl sa tn sc ca tn cc w.heap.size w hnm hr ht)
  have HR := hide hr
  have HT := hide ht
  have HS := hide hs
  have HC := hide hc
  clear hr ht hs hc hnm
  go_enter Try.func3, Try.ntmps3
  go_wp2_with fail
  refine (unhide h5).mono ?_
  rintro e w' ⟨⟨r, rfl⟩, rfl⟩
  clear h5
  cases r
  · go_wp2
    go_ret
    exact ⟨rfl, Below.refl _ _⟩
  go_wp2_with fail
  refine (unhide h6).mono ?_
  rintro e w' ⟨⟨r, rfl, hfit⟩, rfl⟩
  clear h6
  cases r
  · clear hfit
    go_wp2
    go_ret
    exact ⟨rfl, Below.refl _ _⟩
  obtain ⟨hrn, hsum, htn⟩ := hfit rfl
  have HSUM := hide hsum
  clear hfit hsum
  go_wp2_with fail
  obtain ⟨W1, hW1⟩ : ∃ W1, W1 = w.alloc (.cells #[.string nm, .slice ra rn rc] 28) := ⟨_, rfl⟩
  rw [← hW1]
  have q0 : W1.cell? ⟨w.heap.size, 0, none⟩ = some (.string nm) := by rw [hW1]; simp
  have q1 : W1.cell? ⟨w.heap.size, 1, none⟩ = some (.slice ra rn rc) := by rw [hW1]; simp
  have hb1 : Below w.heap.size w W1 := by rw [hW1]; exact (Below.refl _ _).alloc (Nat.le_refl _) _
  have hz1 : w.heap.size < W1.heap.size := by rw [hW1]; simp
  clear hW1
  refine (pre7_any ta tn tc tl sa sc sf ca cc cf w.heap.size W1 (HT.out.below hb1 (Nat.le_refl _)) (HS.out.below hb1 (Nat.le_refl _)) (HC.out.below hb1 (Nat.le_refl _)) htn (by omega)).mono ?_
  rintro e w2 ⟨rfl, hown2, hb2⟩
  have q0' := (hb2.cell (p := ⟨w.heap.size, 0, none⟩) hz1).trans q0
  have q1' := (hb2.cell (p := ⟨w.heap.size, 1, none⟩) hz1).trans q1
  have hbw2 : Below w.heap.size w w2 := hb1.trans (hb2.mono (by omega))
  have hz2 : W1.heap.size ≤ w2.heap.size := hb2.size
  have M2 := hide (msgs_of hown2).2
  have h7 := hide (pre7_any ta tn tc tl sa sc sf ca cc cf w.heap.size w2.drew (HT.out.below hbw2.drew (Nat.le_refl _)) (HS.out.below hbw2.drew (Nat.le_refl _)) (HC.out.below hbw2.drew (Nat.le_refl _)) htn (by show _ ≤ w2.heap.size; omega))
  clear hown2 q0 q1 hb1 hb2
  go_wp2_with fail
  go_region_held3 (fun w' => w'.cell? ⟨w.heap.size, 0, none⟩ = some (.string nm) ∧ w'.cell? ⟨w.heap.size, 1, none⟩ = some (.slice ra rn rc)) (first | assumption | go_keep) (first | (go_at_call 7; refine (unhide h7).mono ?_; rintro e w3 ⟨rfl, hown3, hb3⟩; have q3 : w3.cell? ⟨w.heap.size, 0, none⟩ = some (.string nm) ∧ w3.cell? ⟨w.heap.size, 1, none⟩ = some (.slice ra rn rc) := ⟨(hb3.cell (p := ⟨w.heap.size, 0, none⟩) (by show w.heap.size < w2.heap.size; omega)).trans q0', (hb3.cell (p := ⟨w.heap.size, 1, none⟩) (by show w.heap.size < w2.heap.size; omega)).trans q1'⟩; have hbw3 : Below w.heap.size w w3 := hbw2.drew.trans (hb3.mono (by show _ ≤ w2.heap.size; omega)); have HO3 := hide hown3; have HB3 := hide hb3; clear hown3 hb3) | (go_at_call 8; refine (relay8_any nm ra rn rc A L C l st _ tn tn _ w2.heap.size w3 ((HR.out.below hbw3 (Nat.le_refl _)).mono (by omega)) hst hrn HSUM.out (by omega) HO3.out (HB3.out.size)).mono ?_; rintro e w4 ⟨ga, gq, gc, rfl, hgq, hown4, hb4⟩; have q4 : w4.cell? ⟨w.heap.size, 0, none⟩ = some (.string nm) ∧ w4.cell? ⟨w.heap.size, 1, none⟩ = some (.slice ra rn rc) := ⟨(hb4.cell (p := ⟨w.heap.size, 0, none⟩) (by show w.heap.size < w2.heap.size; omega)).trans q3.1, (hb4.cell (p := ⟨w.heap.size, 1, none⟩) (by show w.heap.size < w2.heap.size; omega)).trans q3.2⟩; have HO4 := hide hown4; have HGQ := hide hgq; clear hown4 hgq))
  clear q0' q1' h7 q3
  obtain ⟨q40, q41⟩ := q4
  have hbw4 : Below w.heap.size w w4 := hbw3.trans (hb4.mono (by omega))
  have h24 : Below w2.heap.size w2 w4 := ((Below.refl _ w2).drew.trans HB3.out).trans hb4
  have M4 := hide (msgs_of HO4.out).2
  have h8 := hide (relay8_any nm ra rn rc A L C l st none 0 0 [] w4.heap.size w4 ((HR.out.below hbw4 (Nat.le_refl _)).mono (by have := hbw4.size; omega)) hst hrn HSUM.out (by omega) (World.ownsRow_nil _ _ _ _) (Nat.le_refl _))
  clear HO3 HB3 hb4 HO4
  go_wp2_with fail
  refine (unhide h8).mono ?_
  rintro e w5 ⟨ba, bq, bc, rfl, hbq, hown5, hb5⟩
  have M5 := hide (msgs_of hown5).2
  have hz24 := h24.size
  have S5 := hide (tail3_of HGQ.out hbq (HR.out) hbw4 M2.out h24 M4.out hb5 M5.out)
  have hbql : bq ≤ 65536 := by
    rw [hbq, relay_len]
    have := count_le nm L l st
    have := sumN_mono L hst
    have := HSUM.out
    omega
  have HBQ := hide hbq
  obtain rfl : gq = tn + bq := by rw [HGQ.out, hbq]; omega
  have HB5 := hide hb5
  clear h8 hown5 hbq hb5 M2 M4 M5 HGQ HR HT HS HC hbw2 hbw3 hbw4 h24 q40 q41 hz1 hz2 hz24
  go_wp2
  go_loopw [17] (fun i wr => ∃ k : Nat, k ≤ tn ∧ i = .int .i64 k ∧ Below w5.heap.size w5 wr) (fun i _ => tn - (intOf i).toNat)
  case atStart => exact ⟨0, by omega, rfl, Below.refl _ _⟩
  case round =>
    obtain ⟨k, hk, rfl, hb⟩ := hrel
    by_cases hlt : k < tn
    · obtain ⟨g1, h1, _, hc1⟩ := (S5.out.pre.below hb (Nat.le_refl _)) (by omega)
      obtain ⟨g2, rfl, _, hc2⟩ := (S5.out.got.below hb (Nat.le_refl _)) (by omega)
      obtain rfl : W1.heap.size = g1 := by simpa using h1
      obtain ⟨d1, d2, d3⟩ := hc1 k hlt
      obtain ⟨e1, e2, e3⟩ := hc2 k (by omega)
      simp only [hlt, if_true] at e1 e2 e3
      clear hc1 hc2 h1
      go_wp2
      go_quiet (fail)
      go_wp2
      go_roundw
      case rel => exact ⟨k + 1, by omega, by go_num, Below.drewN' hb nq⟩
      case measure => simp [intOf]; omega
    · clear hk
      obtain ⟨wo, rfl⟩ : ∃ wo : World, wo = wr := ⟨_, rfl⟩
      have HBO := hide hb
      clear hb
      go_wp2
      go_loopw [18] (fun i wr => ∃ k : Nat, k ≤ bq ∧ i = .int .i64 k ∧ Below w5.heap.size w5 wr) (fun i _ => bq - (intOf i).toNat)
      case atStart => exact ⟨0, by omega, rfl, HBO.out⟩
      case round =>
        obtain ⟨k2, hk, rfl, hb⟩ := hrel
        by_cases hlt2 : k2 < bq
        · obtain ⟨g1, rfl, _, hc1⟩ := (S5.out.bare.below hb (Nat.le_refl _)) (by omega)
          obtain ⟨g2, rfl, _, hc2⟩ := (S5.out.got.below hb (Nat.le_refl _)) (by omega)
          obtain ⟨d1, d2, d3⟩ := hc1 k2 hlt2
          obtain ⟨e1, e2, e3⟩ := hc2 (tn + k2) (by omega)
          have hnl : ¬ tn + k2 < tn := by omega
          simp only [hnl, if_false, Nat.add_sub_cancel_left] at e1 e2 e3
          clear hc1 hc2 hnl
          go_wp2
          go_quiet (fail)
          go_wp2
          go_roundw
          case rel => exact ⟨k2 + 1, by omega, by go_num, Below.drewN' hb nq⟩
          case measure => simp [intOf]; omega
        · clear hk
          obtain ⟨wp, rfl⟩ : ∃ wp : World, wp = wr := ⟨_, rfl⟩
          have h9 : Hid (Calls Try.prog 9 #[.string nm, .slice ra rn rc, .int .i64 0, .int .i64 st] wp fun e w' => e = .returned (.int .i64 bq) ∧ wp = w') := by
            have h := count9_any nm ra rn rc A L C l 0 st _ wp (S5.out.rows.below hb (Nat.le_refl _)) (Nat.zero_le _) hst hrn HSUM.out
            rw [Nat.sub_zero, ← relay_len, ← Nat.zero_add (relay nm L l st).length, ← HBQ.out] at h
            exact h
          have HBP := hide hb
          clear hb HBO
          go_wp2_with (go_at_call 9; refine (unhide h9).mono ?_; rintro e w' ⟨rfl, rfl⟩)
          clear h9
          go_loopw [19] (fun i wr => ∃ k : Nat, k ≤ bq ∧ i = .int .i64 k ∧ Below w5.heap.size w5 wr) (fun i _ => bq - (intOf i).toNat)
          case atStart => exact ⟨0, by omega, rfl, HBP.out⟩
          case round =>
            obtain ⟨k3, hk3, rfl, hb⟩ := hrel
            by_cases hlt3 : k3 < bq
            · obtain ⟨g1, rfl, hg1, hc1⟩ := (S5.out.bare.below hb (Nat.le_refl _)) (by omega)
              obtain ⟨d1, d2, d3⟩ := hc1 k3 hlt3
              obtain ⟨s, j, hsj, hs1, hj1, ho⟩ := relay_at nm L l st dm k3 (by have := HBQ.out; omega)
              have hsz := hb.size
              have R5 := S5.out.rows.below hb (Nat.le_refl _)
              obtain ⟨rb, ro, rfl, hrb, hrc⟩ := R5.row (by omega)
              have c1 := hrc s (by omega)
              obtain ⟨eb, eo, hea, heb, hec⟩ := (R5.each s (by omega)).row (by omega)
              have c2 := hec j hj1
              rw [hea] at c1
              simp only [hsj] at d1 d2 d3
              have ho' : (!(l s j).toList == nm.toList) = true := ho
              have ho2 : ((l s j).toList == nm.toList) = false := by simpa using ho'
              have g1' : g1 < wr.heap.size := by omega
              have rb' : rb < wr.heap.size := by omega
              have eb' : eb < wr.heap.size := by omega
              have hd : decide ((j : Int) < 0) = false := by simp
              have hLs : L s ≤ 65536 := by have := sumN_le L (k := s) (n := rn) (by omega); have := HSUM.out; omega
              have HO := hide ho'
              rcases Nat.eq_zero_or_pos k3 with hz | hz
              · subst hz
                clear hc1 R5 hrc hec hea ho' ho hsj
                go_wp2
                go_quiet (fail)
                go_wp2
                go_quiet (fail)
                go_wp2
                go_roundw
                case rel => exact ⟨1, by omega, by go_num, Below.drewN' (hb.alloc hsz _) _⟩
                case measure => simp [intOf]; omega
              · obtain ⟨k4, rfl⟩ : ∃ k4, k3 = k4 + 1 := ⟨k3 - 1, by omega⟩
                obtain ⟨p1, p2, p3⟩ := hc1 k4 (by omega)
                obtain ⟨s0, j0, hsj0, hs0, hj0, _⟩ := relay_at nm L l st dm k4 (by have := HBQ.out; omega)
                have hah := relay_order nm L l st dm k4 (by have := HBQ.out; omega)
                rw [hsj, hsj0] at hah
                simp only [hsj0] at p1 p2 p3
                have hah' : s < s0 ∨ (s0 = s ∧ j0 < j) := by
                  rcases hah with h | ⟨h, h'⟩
                  · left; have h1 : (s : Int) < s0 := h; omega
                  · right; have h1 : (s0 : Int) = s := h; have h2 : (j0 : Int) < j := h'; omega
                clear hc1 R5 hrc hec hea ho' ho hsj hsj0 hah
                rcases hah' with hlt4 | ⟨rfl, hlt4⟩
                · go_wp2
                  go_quiet (fail)
                  go_wp2
                  go_quiet (fail)
                  go_wp2
                  go_roundw
                  case rel => exact ⟨k4 + 1 + 1, by omega, by go_num, (Below.drewN' (hb.alloc hsz _) _).alloc (by show w5.heap.size ≤ (wr.alloc _).heap.size; simp; omega) _⟩
                  case measure => simp [intOf]; omega
                · have hirr : ¬ ((s0 : Int) < (s0 : Int)) := by omega
                  go_wp2
                  go_quiet (fail)
                  go_wp2
                  go_quiet (fail)
                  go_wp2
                  go_roundw
                  case rel => exact ⟨k4 + 1 + 1, by omega, by go_num, (Below.drewN' (hb.alloc hsz _) _).alloc (by show w5.heap.size ≤ (wr.alloc _).heap.size; simp; omega) _⟩
                  case measure => simp [intOf]; omega
            · go_wp2
              go_ret
              exact ⟨rfl, S5.out.below.trans (hb.mono S5.out.below.size)⟩

end Go.Proofs.Qxb6630001a
