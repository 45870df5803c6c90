/-
  SEAT b6628981a: THE WALK of 'FnTurnsRoundPicksEachByWeight' (function 3).
-/
import Derived.Test.Qxb6628981aZero
namespace Go.Proofs.Qxb6628981a
open Go.RowKit Swrr

/-- What the third loop holds behind k picks. -/
structure Inv3 (w0 wr : World) (bw bs bt bc n T k : Nat) (z : Nat → Int) : Prop where
  below : Below w0.heap.size w0 wr
  ws : Blk wr bw n 2 z
  sc : Blk wr bs n 2 (S z n T k)
  tt : TAt wr bt bw bs n T
  ct : Blk wr bc n 2 (C z n T k)

theorem inv3_start {w wr w2 w3 w4 : World} {n T : Nat} {z : Nat → Int} (Z1 : Blk wr w.heap.size n 2 z) (B1 : Below w.heap.size w wr) (M2 : Made wr w2 n 2)
    (T3 : TAt w3 w2.heap.size w.heap.size wr.heap.size n T) (B3 : Below w2.heap.size w2 w3) (s3 : w2.heap.size < w3.heap.size) (M4 : Made w3 w4 n 2) :
    Inv3 w w4 w.heap.size wr.heap.size w2.heap.size w3.heap.size n T 0 z := by
  have l1 := Z1.lt
  have l2 := M2.size
  have l4 := M4.size
  refine ⟨?_, ?_, ?_, ?_, ?_⟩
  · exact ((B1.trans (M2.below.mono (by omega))).trans (B3.mono (by omega))).trans (M4.below.mono (by omega))
  · exact ((Z1.below M2.below (by omega)).below B3 (by omega)).below M4.below (by omega)
  · exact (M2.row.below B3 (by omega)).below M4.below (by omega)
  · exact T3.below M4.below (by omega)
  · exact M4.row

theorem inv3_step {w0 wr w7 : World} {bw bs bt bc n T q p : Nat} {z : Nat → Int} {cc : Int} (I : Inv3 w0 wr bw bs bt bc n T q z) (t7 : Turned bs wr w7) (b7 : Blk w7 bs n 2 (swStep z (S z n T q) n T))
    (hp : p = P z n T q) (hc : cc = C z n T q p) (h0 : w0.heap.size ≤ bw) (h1 : bw < bs) (h2 : bs < bt) (h3 : bt < bc) :
    Inv3 w0 (w7.setCell ⟨bc, p, none⟩ (.int .i64 (cc + 1))) bw bs bt bc n T (q + 1) z := by
  have tc : Turned bc w7 (w7.setCell ⟨bc, p, none⟩ (.int .i64 (cc + 1))) := (Turned.refl bc w7).setCell _ _
  refine ⟨?_, ?_, ?_, ?_, ?_⟩
  · exact tc.below (by omega) (t7.below (by omega) I.below)
  · exact tc.blk (by omega) (t7.blk (by omega) I.ws)
  · exact tc.blk (by omega) b7
  · exact (I.tt.turned t7 (by omega)).turned tc (by omega)
  · refine ((t7.blk (by omega) I.ct).set p (cc + 1)).congr fun i _ => ?_
    simp only [C, ← hp, hc]

theorem Below.drewN {B : Nat} {a w : World} (h : Below B a w) (n : Nat) : Below B a (w.drewN n) := ⟨h.os, h.tape, h.output, h.size, h.block⟩

/-- What the fourth loop reads. -/
structure Last3 (w0 wr : World) (bs bc n : Nat) (z : Nat → Int) : Prop where
  below : Below w0.heap.size w0 wr
  sc : Blk wr bs n 2 (fun _ => 0)
  ct : Blk wr bc n 2 z

theorem Last3.drewN {w0 wr : World} {bs bc n : Nat} {z : Nat → Int} (h : Last3 w0 wr bs bc n z) (q : Nat) : Last3 w0 (wr.drewN q) bs bc n z := ⟨Below.drewN h.below q, h.sc, h.ct⟩

theorem last3_of {w0 wr : World} {bw bs bt bc n T : Nat} {z : Nat → Int} (F : Fits z n T) (I : Inv3 w0 wr bw bs bt bc n T T z) : Last3 w0 wr bs bc n z :=
  ⟨I.below, I.sc.congr (fun i _ => by rw [S_tot F]), I.ct.congr (fun i _ => C_tot F i)⟩

theorem big3 (a : Option Addr) (n c : Nat) (hn : 4096 < n) (w : World) :
    Calls Try.prog 3 #[.slice a n c] w fun e w' => e = .returned (.bool true) ∧ Below w.heap.size w w' := by
  by_cases h : n ≤ 1048576
  · go_enter Try.func3, Try.ntmps3
    go_wp2
    go_ret
    exact ⟨rfl, Below.refl _ _⟩
  · go_enter Try.func3, Try.ntmps3
    go_wp2
    go_ret
    exact ⟨rfl, Below.refl _ _⟩

set_option maxHeartbeats 2000000 in
set_option maxRecDepth 10000 in
theorem main3 (b off n c : Nat) (z : Nat → Int) (w : World) (hn : 0 < n) (hn' : n ≤ 4096) (hcell : ∀ i, i < n → w.cell? ⟨b, off + i, none⟩ = some (.int .i64 (z i))) (hout : ∀ i, n ≤ i → z i = 0) :
    Calls Try.prog 3 #[.slice (some ⟨b, off, none⟩) n c] w fun e w' => e = .returned (.bool true) ∧ Below w.heap.size w w' := by
  obtain ⟨i2, hi2, hz20, hz21, hz22⟩ := info_parts Try.info2
  have hbs : b < w.heap.size := cell_lt (hcell 0 hn)
  go_enter Try.func3, Try.ntmps3
  go_wp2_with (go_at_call 5; refine (bytes5_any _ _ _ (by omega) _).mono ?_; rintro e w' ⟨rfl, rfl⟩)
  go_loop [3, 4] (fun t i => ∃ k T : Nat, k ≤ n ∧ i = .int .i64 k ∧ t = .int .i64 T ∧ Hid (sumF z k = T) ∧ T ≤ 65536 ∧ ∀ j, j < k → 0 ≤ z j) (fun _ i => n - (intOf i).toNat)
  case atStart => exact ⟨0, 0, Nat.zero_le _, rfl, rfl, rfl, by omega, fun j hj => by omega⟩
  case round =>
    obtain ⟨k, T, hk, rfl, rfl, hT, hT', hnn⟩ := hrel
    by_cases hlt : k < n
    · have c1 := hcell k hlt
      clear hcell hout
      go_wp2
      all_goals first
        | (go_ret; exact ⟨rfl, Below.refl _ _⟩)
        | skip
      have h0 : 0 ≤ z k := by assumption
      have h1 : (T : Int) + z k ≤ 65536 := by assumption
      obtain ⟨T', e1, e2, e3, e4⟩ := sum_round hT.out h0 h1 hnn
      go_round
      case rel => exact ⟨k + 1, T', by omega, by go_num, e1, e2, e3, e4⟩
      case measure => simp [intOf]; omega
    · obtain rfl : k = n := by omega
      have F : Fits z k T := fits_of hT.out hnn hout
      clear hnn hT hout
      go_wp2_with (at_make; refine wpList_make_full _ rfl (.tmp 43) (.tmp 43) 22 rfl w.heap.size 2 i2 (.int .i64 0) 1 Try.underlying22 hi2 hz20 hz21 _ _ _ _ k rfl rfl (by omega) (by omega) (by rw [hz22]; omega) (by unfold maxLen; omega) (Nat.le_refl _) ?_; intro w1 hown1 hgrow1; have M1 := made_of hown1 hgrow1; clear hown1 hgrow1)
      go_loopw [7] (fun i wr => ∃ m : Nat, m ≤ k ∧ i = .int .i64 m ∧ Turned w.heap.size w1 wr ∧ Blk wr w.heap.size k 2 (fun i => if i < m then z i else 0)) (fun i _ => k - (intOf i).toNat)
      case atStart => exact ⟨0, Nat.zero_le _, rfl, Turned.refl _ _, M1.row.congr (fun i _ => by simp)⟩
      case round =>
        obtain ⟨wo, rfl⟩ : ∃ wo : World, wo = wr := ⟨_, rfl⟩
        obtain ⟨m, hm, rfl, htu, hbl⟩ := hrel
        by_cases hlt2 : m < k
        · have c1 := ((htu.cell (p := ⟨b, off + m, none⟩) (by show b ≠ _; omega)).trans (M1.below.cell (p := ⟨b, off + m, none⟩) hbs)).trans (hcell m hlt2)
          have c2 := hbl.cell m hlt2
          have f2 := hbl.free m
          clear hcell M1
          go_wp2
          go_roundw
          case rel => exact ⟨m + 1, by omega, by go_num, htu.setCell _ _, blk_copy hbl⟩
          case measure => simp [intOf]; omega
        · obtain rfl : m = k := by omega
          have Z1 : Blk wo w.heap.size m 2 z := hbl.congr (fun i hi => by simp [hi])
          have B1 : Below w.heap.size w wo := htu.below (Nat.le_refl _) M1.below
          have s1 : w.heap.size < wo.heap.size := Z1.lt
          clear hbl htu M1
          go_wp2_with (first | (at_make; refine wpList_make_full _ rfl (.tmp 59) (.tmp 59) 22 rfl wo.heap.size 2 i2 (.int .i64 0) 1 Try.underlying22 hi2 hz20 hz21 _ _ _ _ m rfl rfl (by omega) (by omega) (by rw [hz22]; omega) (by unfold maxLen; omega) (Nat.le_refl _) ?_; intro w2 hown2 hgrow2; have M2 := made_of hown2 hgrow2; clear hown2 hgrow2))
          refine (new6_any _ _ _ _ _).mono ?_
          rintro e w3 ⟨rfl, T3, B3, s3⟩
          go_wp2_with (first | (at_make; refine wpList_make_full _ rfl (.tmp 66) (.tmp 66) 22 rfl w3.heap.size 2 i2 (.int .i64 0) 1 Try.underlying22 hi2 hz20 hz21 _ _ _ _ m rfl rfl (by omega) (by omega) (by rw [hz22]; omega) (by unfold maxLen; omega) (Nat.le_refl _) ?_; intro w4 hown4 hgrow4; have M4 := made_of hown4 hgrow4; clear hown4 hgrow4))
          have I0 := inv3_start Z1 B1 M2 T3 B3 s3 M4
          have hT1 : w.heap.size < wo.heap.size := s1
          have hT2 : wo.heap.size < w2.heap.size := M2.size
          have hT4 : w2.heap.size < w3.heap.size := s3
          clear Z1 B1 M2 T3 B3 s3 M4 s1
          go_loopw [11] (fun i w6 => ∃ q : Nat, q ≤ T ∧ i = .int .i64 q ∧ Inv3 w w6 w.heap.size wo.heap.size w2.heap.size w3.heap.size m T q z) (fun i _ => T - (intOf i).toNat)
          case atStart => exact ⟨0, by omega, rfl, I0⟩
          case round =>
            obtain ⟨q, hq, rfl, I⟩ := hrel
            by_cases hlt3 : q < T
            · have hTp : (0 : Int) < T := by omega
              have hN := hide (next7_any w2.heap.size w.heap.size wo.heap.size m z (S z m T q) T wr hn hn' I.tt I.ws I.sc (by omega) (by omega) (z_bd F (by omega)) (S_bd F (by omega) (by omega) q (by omega)) (by omega) (by omega))
              go_wp2_with fail
              refine (unhide hN).mono ?_
              rintro e w7 ⟨rfl, t7, b7⟩
              clear hN
              obtain ⟨p, hp⟩ : ∃ p, p = P z m T q := ⟨_, rfl⟩
              rw [show swPick z (S z m T q) m = p from hp.symm]
              have hpn : p < m := by rw [hp]; exact P_lt z m T q hn
              have ct := t7.blk (by omega) I.ct
              have c2 := ct.cell p hpn
              have f2 := ct.free p
              obtain ⟨cc, hcc⟩ : ∃ cc, cc = C z m T q p := ⟨_, rfl⟩
              rw [← hcc] at c2
              have hc0 : 0 ≤ cc := by rw [hcc]; exact C_nonneg z m T q p
              have hc1 : cc ≤ q := by rw [hcc]; exact C_le z m T q p
              have HP : Hid (p = P z m T q) := hp
              have HC : Hid (cc = C z m T q p) := hcc
              clear hp hcc hcell
              go_wp2
              go_roundw
              case rel => exact ⟨q + 1, by omega, by go_num, inv3_step I t7 b7 HP.out HC.out (Nat.le_refl _) hT1 hT2 hT4⟩
              case measure => simp [intOf]; omega
            · obtain rfl : q = T := by omega
              obtain ⟨wp, rfl⟩ : ∃ wp : World, wp = wr := ⟨_, rfl⟩
              have L := last3_of F I
              have tt := I.tt
              clear I
              go_wp2_with (go_at_call 8; refine (scores8_any _ _ _ _ _ _ tt).mono ?_; rintro e w' ⟨rfl, rfl⟩)
              go_loopw [14] (fun i w8 => ∃ j : Nat, j ≤ m ∧ i = .int .i64 j ∧ Last3 w w8 wo.heap.size w3.heap.size m z) (fun i _ => m - (intOf i).toNat)
              case atStart => exact ⟨0, by omega, rfl, L⟩
              case round =>
                obtain ⟨j, hj, rfl, L2⟩ := hrel
                by_cases hlt4 : j < m
                · have c1 : wr.cell? ⟨b, off + j, none⟩ = some (.int .i64 (z j)) := (L2.below.cell (p := ⟨b, off + j, none⟩) hbs).trans (hcell j hlt4)
                  have c2 := L2.sc.cell j hlt4
                  have c3 := L2.ct.cell j hlt4
                  clear hcell
                  go_wp2
                  go_quiet (fail)
                  go_wp2
                  go_roundw
                  case rel => exact ⟨j + 1, by omega, by go_num, L2.drewN nq⟩
                  case measure => simp [intOf]; omega
                · go_wp2
                  go_ret
                  exact ⟨rfl, L2.below⟩

set_option maxHeartbeats 1000000 in
theorem zero3 (a : Option Addr) (c : Nat) (w : World) :
    Calls Try.prog 3 #[.slice a 0 c] w fun e w' => e = .returned (.bool true) ∧ Below w.heap.size w w' := by
  obtain ⟨i2, hi2, hz20, hz21, hz22⟩ := info_parts Try.info2
  go_enter Try.func3, Try.ntmps3
  go_wp2_with (go_at_call 5; refine (bytes5_any _ _ _ (by omega) _).mono ?_; rintro e w' ⟨rfl, rfl⟩)
  refine wp_loop_rounds 1 ?_
  rw [rounds_succ]
  go_wp2_with (at_make; refine wpList_make_full _ rfl (.tmp 43) (.tmp 43) 22 rfl w.heap.size 2 i2 (.int .i64 0) 1 Try.underlying22 hi2 hz20 hz21 _ _ _ _ 0 rfl rfl (by omega) (by omega) (by omega) (by unfold maxLen; omega) (Nat.le_refl _) ?_; intro w1 hown1 hgrow1; have M1 := made_of hown1 hgrow1; clear hown1 hgrow1)
  refine wp_loop_rounds 1 ?_
  rw [rounds_succ]
  go_wp2_with (first | (at_make; refine wpList_make_full _ rfl (.tmp 59) (.tmp 59) 22 rfl w1.heap.size 2 i2 (.int .i64 0) 1 Try.underlying22 hi2 hz20 hz21 _ _ _ _ 0 rfl rfl (by omega) (by omega) (by omega) (by unfold maxLen; omega) (Nat.le_refl _) ?_; intro w2 hown2 hgrow2; have M2 := made_of hown2 hgrow2; clear hown2 hgrow2))
  refine (new6_any _ _ _ _ _).mono ?_
  rintro e w3 ⟨rfl, T3, B3, s3⟩
  go_wp2_with (first | (at_make; refine wpList_make_full _ rfl (.tmp 66) (.tmp 66) 22 rfl w3.heap.size 2 i2 (.int .i64 0) 1 Try.underlying22 hi2 hz20 hz21 _ _ _ _ 0 rfl rfl (by omega) (by omega) (by omega) (by unfold maxLen; omega) (Nat.le_refl _) ?_; intro w4 hown4 hgrow4; have M4 := made_of hown4 hgrow4; clear hown4 hgrow4))
  refine wp_loop_rounds 1 ?_
  rw [rounds_succ]
  have tt := T3.below M4.below s3
  go_wp2_with (go_at_call 8; refine (scores8_any _ _ _ _ _ _ tt).mono ?_; rintro e w' ⟨rfl, rfl⟩)
  refine wp_loop_rounds 1 ?_
  rw [rounds_succ]
  go_wp2
  go_ret
  have l1 := M1.size
  have l2 := M2.size
  exact ⟨rfl, ((M1.below.trans (M2.below.mono (by omega))).trans (B3.mono (by omega))).trans (M4.below.mono (by omega))⟩

end Go.Proofs.Qxb6628981a
