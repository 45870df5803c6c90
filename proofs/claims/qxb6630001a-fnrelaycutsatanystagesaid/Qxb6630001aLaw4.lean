/-
  SEAT b6630001a: the walk of 'FnRelayCutsAtAnyStage' (function 4).
-/
import Derived.Test.Qxb6630001aEq
import Derived.Deep.RegionHeld3
namespace Go.Proofs.Qxb6630001a
open Go.RowKit Ry

/-- Block b is a row of n slice values V 0, V 1, .. -/
def SBlk (w : World) (b n : Nat) (V : Nat → Value) : Prop := w.heap[b]? = some (.cells ((List.range n).map V).toArray 23 (0, 0))
theorem SBlk.cell {w : World} {b n : Nat} {V : Nat → Value} (h : SBlk w b n V) (i : Nat) (hi : i < n) : w.cell? ⟨b, i, none⟩ = some (V i) := by
  unfold SBlk at h; simp [World.cell?, h, hi]
theorem SBlk.free {w : World} {b n : Nat} {V : Nat → Value} (h : SBlk w b n V) (i : Nat) : w.frozen? ⟨b, i, none⟩ = false := by
  unfold SBlk at h; simp [World.frozen?, h]
theorem SBlk.lt {w : World} {b n : Nat} {V : Nat → Value} (h : SBlk w b n V) : b < w.heap.size := lt_of_block h
theorem SBlk.set {w : World} {b n : Nat} {V V' : Nat → Value} (h : SBlk w b n V) (p : Nat) (v : Value) (hV : ∀ i, i < n → V' i = if i = p then v else V i) : SBlk (w.setCell ⟨b, p, none⟩ v) b n V' := by
  have hlt := h.lt
  unfold SBlk at h ⊢
  have h' : w.heap[b] = .cells ((List.range n).map V).toArray 23 (0, 0) := by simpa [Array.getElem?_eq_getElem hlt] using h
  show (w.heap.modify b _)[b]? = _
  rw [Array.getElem?_eq_getElem (by simpa using hlt), Array.getElem_modify_self, h']
  simp only [Option.isSome_none, Bool.false_eq_true, if_false, Option.some.injEq, Obj.cells.injEq, and_true]
  apply Array.ext
  · simp
  · intro i h1 h2
    simp only [List.setIfInBounds_toArray, List.size_toArray, List.length_set, List.length_map, List.length_range] at h1
    simp only [List.setIfInBounds_toArray, List.getElem_toArray, List.getElem_set, List.getElem_map, List.getElem_range, hV i h1]
    by_cases e : p = i
    · subst e; simp
    · have e' : ¬ i = p := fun x => e x.symm
      simp [e, e']

theorem sblk_made {w' : World} {base g n : Nat} (h : w'.ownsRow base 23 1 (.slice (some ⟨g, 0, none⟩) n n) n (madeCells (Value.slice none 0 0).cells (n * 1)).toList) : SBlk w' g n (fun _ => .slice none 0 0) := by
  obtain ⟨_, h2⟩ := h
  rcases h2 with ⟨h2, _⟩ | ⟨g', cap, cur, hv, _, hh, _, _, hs, hc⟩
  · simp at h2
  · simp only [Value.slice.injEq, Option.some.injEq, Addr.mk.injEq, and_true] at hv
    obtain ⟨rfl, _, rfl⟩ := hv
    unfold SBlk
    rw [hh]
    simp only [Option.some.injEq, Obj.cells.injEq, and_true]
    have : cur.toList = (List.range n).map fun _ => Value.slice none 0 0 := by
      rw [List.take_of_length_le (by simpa using Nat.le_of_eq hs)] at hc
      rw [hc]
      apply List.ext_getElem
      · simp [madeCells]
      · intro i h1 h2
        simp [madeCells, Value.cells, Nat.mod_one]
    rw [← this]

/-- The rows of the table whose rows below k are emptied. -/
def hiA (A : Nat → Option Addr) (k : Nat) : Nat → Option Addr := fun i => if i < k then none else A i
def hiN (L : Nat → Nat) (k : Nat) : Nat → Nat := fun i => if i < k then 0 else L i

theorem rows_high {w wr : World} {b n k : Nat} {ra : Option Addr} {A : Nat → Option Addr} {L C : Nat → Nat} {l : Nat → Nat → ByteArray} (hr : RowsIn w w.heap.size ra n A L C l) (hb : Below w.heap.size w wr)
    (h : SBlk wr b n (fun i => if i < k then .slice none 0 0 else .slice (A i) (L i) (C i))) : RowsIn wr wr.heap.size (some ⟨b, 0, none⟩) n (hiA A k) (hiN L k) (hiN C k) l := by
  refine ⟨hr.len, fun _ => ⟨b, 0, rfl, h.lt, fun i hi => ?_⟩, fun i hi => ?_⟩
  · rw [Nat.zero_add, h.cell i hi]
    by_cases e : i < k <;> simp [hiA, hiN, e]
  · by_cases e : i < k
    · simp only [hiA, hiN, e, if_true]
      exact ⟨by unfold maxLen; omega, fun i hi => by omega, fun h => by omega⟩
    · simp only [hiA, hiN, e, if_false]
      exact ((hr.each i hi).below hb (Nat.le_refl _)).mono hb.size

theorem SBlk.congr {w : World} {b n : Nat} {V V' : Nat → Value} (h : SBlk w b n V) (hV : ∀ i, i < n → V i = V' i) : SBlk w b n V' := by
  unfold SBlk at h ⊢
  rw [h]
  have : (List.range n).map V = (List.range n).map V' := List.map_congr_left fun i hi => hV i (by simpa using hi)
  rw [this]

theorem sumN_hi (L : Nat → Nat) (k : Nat) : ∀ n, sumN (hiN L k) n ≤ sumN L n
  | 0 => Nat.le_refl _
  | n + 1 => by
    have := sumN_hi L k n
    simp only [sumN, hiN]
    by_cases e : n < k
    · simp only [e, if_true]; omega
    · simp only [e, if_false]; omega

theorem relay_low (nm : ByteArray) (L : Nat → Nat) (l : Nat → Nat → ByteArray) (k : Nat) : ∀ s, s ≤ k → relay nm (hiN L k) l s = []
  | 0, _ => rfl
  | s + 1, h => by
    rw [relay, relay_low nm L l k s (by omega)]
    have : hiN L k s = 0 := by unfold hiN; rw [if_pos (by omega)]
    rw [this]; rfl

theorem relay_cut (nm : ByteArray) (L : Nat → Nat) (l : Nat → Nat → ByteArray) (k : Nat) : ∀ d, relay nm (hiN L k) l (k + d) ++ relay nm L l k = relay nm L l (k + d)
  | 0 => by rw [Nat.add_zero, relay_low nm L l k k (Nat.le_refl _)]; rfl
  | d + 1 => by
    rw [← Nat.add_assoc, relay, relay, List.append_assoc, relay_cut nm L l k d]
    have : hiN L k (k + d) = L (k + d) := by unfold hiN; rw [if_neg (by omega)]
    rw [this]

theorem relay_hi_len (nm : ByteArray) (L : Nat → Nat) (l : Nat → Nat → ByteArray) (k : Nat) : ∀ d, (relay nm (hiN L k) l (k + d)).length = count nm L l k d
  | 0 => by rw [Nat.add_zero, relay_low nm L l k k (Nat.le_refl _)]; rfl
  | d + 1 => by
    rw [← Nat.add_assoc, relay, List.length_append, relay_hi_len nm L l k d, count]
    have : hiN L k (k + d) = L (k + d) := by unfold hiN; rw [if_neg (by omega)]
    rw [this]; omega

theorem Below.drewN' {B : Nat} {a w : World} (h : Below B a w) (n : Nat) : Below B a (w.drewN n) := ⟨h.os, h.tape, h.output, h.size, h.block⟩

theorem hi_round (A : Nat → Option Addr) (L C : Nat → Nat) (k s i : Nat) (h : k ≤ s) :
    (if k ≤ i ∧ i < s + 1 then Value.slice (A i) (L i) (C i) else .slice none 0 0) = if i = s then .slice (A s) (L s) (C s) else if k ≤ i ∧ i < s then .slice (A i) (L i) (C i) else .slice none 0 0 := by
  by_cases e : i = s
  · subst e; rw [if_pos ⟨h, by omega⟩, if_pos rfl]
  · rw [if_neg e]
    by_cases e2 : k ≤ i ∧ i < s
    · rw [if_pos e2, if_pos ⟨e2.1, by omega⟩]
    · rw [if_neg e2, if_neg (by omega)]

theorem hi_last (A : Nat → Option Addr) (L C : Nat → Nat) (k n i : Nat) (h : i < n) :
    (if k ≤ i ∧ i < n then Value.slice (A i) (L i) (C i) else .slice none 0 0) = if i < k then .slice none 0 0 else .slice (A i) (L i) (C i) := by
  by_cases e : i < k
  · rw [if_pos e, if_neg (by omega)]
  · rw [if_neg e, if_pos ⟨by omega, h⟩]

theorem Try.info23 : (Try.prog.info? 23).map (fun i => (i.zero, i.size, i.bytes)) = some (some (.slice none 0 0), 1, 24) := by kernel_rfl

set_option maxHeartbeats 4000000 in
set_option maxRecDepth 10000 in
theorem law4_in (nm : ByteArray) (ra : Option Addr) (rn rc : Nat) (A : Nat → Option Addr) (L C : Nat → Nat) (l : Nat → Nat → ByteArray) (st ks : Nat) (ta : Option Addr) (tn tc : Nat) (tl : Nat → ByteArray)
    (sa : Option Addr) (sc : Nat) (sf : Nat → Int) (ca : Option Addr) (cc : Nat) (cf : Nat → Int) (w : World) (hnm : nm.size ≤ maxLen)
    (hr : RowsIn w w.heap.size ra rn A L C l) (ht : StrsIn w w.heap.size ta tn tl) (hs : IntsIn w w.heap.size sa tn sf) (hc : IntsIn w w.heap.size ca tn cf) (hst : st ≤ rn) (hks : ks ≤ st) :
    Calls Try.prog 4 #[.string nm, .slice ra rn rc, .int .i64 st, .int .i64 ks, .slice ta tn tc, .slice sa tn sc, .slice ca tn cc] w fun e w' => e = .returned (.bool true) ∧ Below w.heap.size w w' := by
  obtain ⟨i23, hi23, hz0, hz1, hz2⟩ := info_parts Try.info23
  have h5 := hide (bytes10_any nm ra rn rc A L C l st ks ta tn tc tl sa tn sc ca tn cc w.heap.size w hnm hr ht hs.len hc.len)
  have h6 := hide (size6_any nm ra rn rc A L C l ta tn tc tl sa tn sc ca tn cc w.heap.size w hnm hr ht)
  have HR := hide hr
  have HT := hide ht
  have HS := hide hs
  have HC := hide hc
  clear hr ht hs hc hnm
  go_enter Try.func4, Try.ntmps4
  go_wp2_with fail
  refine (unhide h5).mono ?_
  rintro e w' ⟨⟨r, rfl⟩, rfl⟩
  clear h5
  cases r
  · go_wp2
    go_ret
    exact ⟨rfl, Below.refl _ _⟩
  go_wp2_with fail
  refine (unhide h6).mono ?_
  rintro e w' ⟨⟨r, rfl, hfit⟩, rfl⟩
  clear h6
  cases r
  · clear hfit
    go_wp2
    go_ret
    exact ⟨rfl, Below.refl _ _⟩
  obtain ⟨hrn, hsum, htn⟩ := hfit rfl
  have HSUM := hide hsum
  clear hfit hsum
  go_wp2_with (at_make; refine wpList_make_full _ rfl (.tmp 70) (.tmp 70) 22 rfl (w.heap.size + 1) 23 i23 _ 1 Try.underlying22 hi23 hz0 hz1 _ _ _ _ rn rfl rfl (by omega) (by omega) (by rw [hz2]; omega) (by unfold maxLen; omega) (by simp) ?_; intro w2 hown2 hgrow2)
  have hb2 : Below (w.heap.size + 1) (w.alloc (.cells #[.string nm, .slice ra rn rc] 28)) w2 := (Below.refl _ _).grown hgrow2 (by simp) (fun k hk => by simp at hk)
  have hS2 := sblk_made hown2
  simp only [World.size_alloc] at hS2
  have hbw2 : Below w.heap.size w w2 := ((Below.refl _ _).alloc (Nat.le_refl _) _).trans (hb2.mono (by omega))
  have t0 : w2.cell? ⟨w.heap.size, 0, none⟩ = some (.string nm) := (hb2.cell (p := ⟨w.heap.size, 0, none⟩) (by show w.heap.size < _; omega)).trans (by simp)
  have t1 : w2.cell? ⟨w.heap.size, 1, none⟩ = some (.slice ra rn rc) := (hb2.cell (p := ⟨w.heap.size, 1, none⟩) (by show w.heap.size < _; omega)).trans (by simp)
  clear hown2 hgrow2 hb2
  go_loopw [17] (fun i wr => ∃ s : Nat, ks ≤ s ∧ s ≤ rn ∧ i = .int .i64 s ∧ Below w.heap.size w wr ∧ wr.cell? ⟨w.heap.size, 0, none⟩ = some (.string nm) ∧ wr.cell? ⟨w.heap.size, 1, none⟩ = some (.slice ra rn rc) ∧
      SBlk wr (w.heap.size + 1) rn (fun i => if ks ≤ i ∧ i < s then .slice (A i) (L i) (C i) else .slice none 0 0)) (fun i _ => rn - (intOf i).toNat)
  case atStart => exact ⟨ks, Nat.le_refl _, by omega, rfl, hbw2, t0, t1, by have e : (fun i => if ks ≤ i ∧ i < ks then Value.slice (A i) (L i) (C i) else .slice none 0 0) = fun _ => .slice none 0 0 := (by funext i; rw [if_neg (by omega)])
                                                                            rw [e]; exact hS2⟩
  case round =>
    obtain ⟨s, hs0, hs1, rfl, hbw, t0, t1, hS⟩ := hrel
    clear hbw2 hS2
    by_cases hlt : s < rn
    · obtain ⟨b, off, rfl, hb, hcell⟩ := HR.out.row (by omega)
      have c1 := (hbw.cell (p := ⟨b, off + s, none⟩) hb).trans (hcell s hlt)
      have c2 := hS.cell s hlt
      rw [if_neg (by omega)] at c2
      have f2 := hS.free s
      have HBW := hide hbw
      have HS2 := hide hS
      clear hcell hbw hS
      go_wp2
      go_roundw
      case rel => exact ⟨s + 1, by omega, by omega, by go_num, HBW.out.setCell (by show w.heap.size ≤ w.heap.size + 1; omega) _, ((Below.refl (w.heap.size + 1) wr).setCell (p := ⟨w.heap.size + 1, s, none⟩) (Nat.le_refl _) _ |>.cell (p := ⟨w.heap.size, 0, none⟩) (Nat.lt_succ_self _)).trans t0, ((Below.refl (w.heap.size + 1) wr).setCell (p := ⟨w.heap.size + 1, s, none⟩) (Nat.le_refl _) _ |>.cell (p := ⟨w.heap.size, 1, none⟩) (Nat.lt_succ_self _)).trans t1, HS2.out.set s _ (fun i hi => hi_round A L C ks s i hs0)⟩
      case measure => simp [intOf]; omega
    · obtain rfl : s = rn := by omega
      have hRW := hide ((HR.out.below hbw (Nat.le_refl _)).mono hbw.size)
      have hRH := hide (rows_high HR.out hbw (hS.congr (fun i hi => hi_last A L C ks s i hi)))
      have hlh := hS.lt
      have HBW := hide hbw
      clear hbw hS HR
      go_wp2_with fail
      obtain ⟨W3, hW3⟩ : ∃ W3, W3 = wr.alloc (.cells #[.string nm, .slice (some ⟨w.heap.size + 1, 0, none⟩) s s] 28) := ⟨_, rfl⟩
      rw [← hW3]
      have u0 : W3.cell? ⟨wr.heap.size, 0, none⟩ = some (.string nm) := by rw [hW3]; simp
      have u1 : W3.cell? ⟨wr.heap.size, 1, none⟩ = some (.slice (some ⟨w.heap.size + 1, 0, none⟩) s s) := by rw [hW3]; simp
      have hb3 : Below wr.heap.size wr W3 := by rw [hW3]; exact (Below.refl _ _).alloc (Nat.le_refl _) _
      have hz3 : wr.heap.size < W3.heap.size := by rw [hW3]; simp
      clear hW3
      have t0' := (hb3.cell (p := ⟨w.heap.size, 0, none⟩) (by show w.heap.size < _; omega)).trans t0
      have t1' := (hb3.cell (p := ⟨w.heap.size, 1, none⟩) (by show w.heap.size < _; omega)).trans t1
      have hbw3 : Below w.heap.size w W3 := HBW.out.trans (hb3.mono (by omega))
      have RW3 := hide (((unhide hRW).below hb3 (Nat.le_refl _)).mono (Nat.le_of_lt hz3))
      have RH3 := hide (((unhide hRH).below hb3 (Nat.le_refl _)).mono (Nat.le_of_lt hz3))
      have T3 := hide ((HT.out.below hbw3 (Nat.le_refl _)).mono hbw3.size)
      have S3 := hide ((HS.out.below hbw3 (Nat.le_refl _)).mono hbw3.size)
      have C3 := hide ((HC.out.below hbw3 (Nat.le_refl _)).mono hbw3.size)
      have HBW3 := hide hbw3
      clear hRW hRH t0 t1 hb3 HBW hbw3 HT HS HC
      have hl0 : w.heap.size < W3.heap.size := by omega
      have dB : Below W3.heap.size W3 W3.drew := (Below.refl _ _).drew
      have h7 := hide (pre7_any ta tn tc tl sa sc sf ca cc cf W3.heap.size W3.drew ((unhide T3).below dB (Nat.le_refl _)) ((unhide S3).below dB (Nat.le_refl _)) ((unhide C3).below dB (Nat.le_refl _)) htn (Nat.le_refl _))
      have HDB := hide dB
      clear dB
      go_region_held3 (fun w' => w'.cell? ⟨w.heap.size, 0, none⟩ = some (.string nm) ∧ w'.cell? ⟨w.heap.size, 1, none⟩ = some (.slice ra s rc)) (first | assumption | go_keep) (first | (go_at_call 7; refine (unhide h7).mono ?_; rintro e w4 ⟨rfl, hown4, hb4⟩; have HB4 := hide ((unhide HDB).trans hb4); have q4 : w4.cell? ⟨w.heap.size, 0, none⟩ = some (.string nm) ∧ w4.cell? ⟨w.heap.size, 1, none⟩ = some (.slice ra s rc) := ⟨((unhide HB4).cell (p := ⟨w.heap.size, 0, none⟩) hl0).trans t0', ((unhide HB4).cell (p := ⟨w.heap.size, 1, none⟩) hl0).trans t1'⟩; have HO4 := hide hown4; clear hown4 hb4) | (go_at_call 8; refine (relay8_any nm ra s rc A L C l st _ tn tn _ W3.heap.size w4 ((unhide RW3).below (unhide HB4) (Nat.le_refl _)) hst hrn HSUM.out (by omega) (unhide HO4) ((unhide HB4).size)).mono ?_; rintro e w5 ⟨fa, fq, fc, rfl, hfq, hown5, hb5⟩; have HB5 := hide ((unhide HB4).trans hb5); have q5 : w5.cell? ⟨w.heap.size, 0, none⟩ = some (.string nm) ∧ w5.cell? ⟨w.heap.size, 1, none⟩ = some (.slice ra s rc) := ⟨((unhide HB5).cell (p := ⟨w.heap.size, 0, none⟩) hl0).trans t0', ((unhide HB5).cell (p := ⟨w.heap.size, 1, none⟩) hl0).trans t1'⟩; have HO5 := hide hown5; have HFQ := hide hfq; clear hown5 hfq hb5))
      have hz5 := (unhide HB5).size
      have u0' := ((unhide HB5).cell (p := ⟨wr.heap.size, 0, none⟩) hz3).trans u0
      have u1' := ((unhide HB5).cell (p := ⟨wr.heap.size, 1, none⟩) hz3).trans u1
      have M5 := hide (msgs_of (unhide HO5)).2
      clear h7 HDB HB4 HO4 q4 q5 HO5 u0 u1
      have dB : Below W3.heap.size W3 w5.drew := (unhide HB5).drew
      have h7 := hide (pre7_any ta tn tc tl sa sc sf ca cc cf w5.heap.size w5.drew (((unhide T3).below dB (Nat.le_refl _)).mono hz5) (((unhide S3).below dB (Nat.le_refl _)).mono hz5) (((unhide C3).below dB (Nat.le_refl _)).mono hz5) htn (Nat.le_refl _))
      have hl5 : wr.heap.size < w5.heap.size := by omega
      have HD5 : Hid (Below w5.heap.size w5 w5.drew) := (Below.refl _ _).drew
      clear dB
      go_wp2_with fail
      go_region_held3 (fun w' => w'.cell? ⟨wr.heap.size, 0, none⟩ = some (.string nm) ∧ w'.cell? ⟨wr.heap.size, 1, none⟩ = some (.slice (some ⟨w.heap.size + 1, 0, none⟩) s s)) (first | assumption | go_keep) (first | (go_at_call 7; refine (unhide h7).mono ?_; rintro e w6 ⟨rfl, hown6, hb6⟩; have HB6 := hide ((unhide HD5).trans hb6); have q6 : w6.cell? ⟨wr.heap.size, 0, none⟩ = some (.string nm) ∧ w6.cell? ⟨wr.heap.size, 1, none⟩ = some (.slice (some ⟨w.heap.size + 1, 0, none⟩) s s) := ⟨((unhide HB6).cell (p := ⟨wr.heap.size, 0, none⟩) hl5).trans u0', ((unhide HB6).cell (p := ⟨wr.heap.size, 1, none⟩) hl5).trans u1'⟩; have HO6 := hide hown6; clear hown6 hb6) | (go_at_call 8; refine (relay8_any nm (some ⟨w.heap.size + 1, 0, none⟩) s s (hiA A ks) (hiN L ks) (hiN C ks) l st _ tn tn _ w5.heap.size w6 ((((unhide RH3).below (unhide HB5) (Nat.le_refl _)).mono hz5).below (unhide HB6) (Nat.le_refl _)) hst hrn (Nat.le_trans (sumN_hi L ks s) HSUM.out) (by omega) (unhide HO6) ((unhide HB6).size)).mono ?_; rintro e w7 ⟨pa, pq, pc, rfl, hpq, hown7, hb7⟩; have HB7 := hide ((unhide HB6).trans hb7); have q7 : w7.cell? ⟨wr.heap.size, 0, none⟩ = some (.string nm) ∧ w7.cell? ⟨wr.heap.size, 1, none⟩ = some (.slice (some ⟨w.heap.size + 1, 0, none⟩) s s) := ⟨((unhide HB7).cell (p := ⟨wr.heap.size, 0, none⟩) hl5).trans u0', ((unhide HB7).cell (p := ⟨wr.heap.size, 1, none⟩) hl5).trans u1'⟩; have HO7 := hide hown7; have HPQ := hide hpq; clear hown7 hpq hb7))
      obtain ⟨d, hd⟩ : ∃ d, st = ks + d := ⟨st - ks, by omega⟩
      have HB37 : Hid (Below W3.heap.size W3 w7) := (unhide HB5).trans ((unhide HB7).mono hz5)
      have hz7 := (unhide HB7).size
      have t0'' := ((unhide HB37).cell (p := ⟨w.heap.size, 0, none⟩) hl0).trans t0'
      have t1'' := ((unhide HB37).cell (p := ⟨w.heap.size, 1, none⟩) hl0).trans t1'
      obtain ⟨cq, hcq⟩ : ∃ cq, cq = (relay nm (hiN L ks) l st).length := ⟨_, rfl⟩
      obtain ⟨rq, hrq⟩ : ∃ rq, rq = (relay nm L l st).length := ⟨_, rfl⟩
      have hrq' : rq ≤ 65536 := by
        rw [hrq, relay_len]
        have := count_le nm L l st
        have := sumN_mono L hst
        have := HSUM.out
        omega
      have hcut := congrArg List.length (relay_cut nm L l ks d)
      rw [← hd, List.length_append, ← hcq, ← hrq] at hcut
      have hcq' : cq ≤ 65536 := by omega
      obtain rfl : fq = tn + rq := by rw [unhide HFQ, ← hrq]
      obtain rfl : pq = tn + cq := by rw [unhide HPQ, ← hcq]
      have h9 : Hid (Calls Try.prog 9 #[.string nm, .slice ra s rc, .int .i64 ks, .int .i64 st] w7 fun e w' => e = .returned (.int .i64 cq) ∧ w7 = w') := by
        have h := count9_any nm ra s rc A L C l ks st _ w7 ((unhide RW3).below (unhide HB37) (Nat.le_refl _)) hks hst hrn HSUM.out
        rw [show st - ks = d by omega, ← relay_hi_len, ← hd, ← hcq] at h
        exact h
      have h8 := hide (relay8_any nm ra s rc A L C l ks pa (tn + cq) pc _ w5.heap.size w7 (((unhide RW3).below (unhide HB37) (Nat.le_refl _)).mono hz5) (by omega) hrn HSUM.out (by omega) (unhide HO7) hz7)
      have HHD := hide hd
      have HCUT := hide hcut
      have HRQ := hide hrq
      have HCQ := hide hcq
      clear hd hcut hrq hcq h7 HB6 HO6 q6 q7 HO7 HFQ HPQ t0' t1' u0' u1' HD5
      go_wp2_with (first | (go_at_call 9; refine (unhide h9).mono ?_; rintro e w' ⟨rfl, rfl⟩) | (go_at_call 8; refine (unhide h8).mono ?_; rintro e w8 ⟨ja, jq, jc, rfl, hjq, hown8, hb8⟩; have HO8 := hide hown8; have HJQ := hide hjq; have HB8 := hide hb8; clear hown8 hjq hb8))
      obtain rfl : jq = tn + rq := by rw [unhide HJQ]; have := unhide HCUT; omega
      have hz8 := (unhide HB8).size
      have HB58 : Hid (Below w5.heap.size w5 w8) := (unhide HB7).trans (unhide HB8)
      have M8 := (msgs_of (unhide HO8)).2
      have hms : ((List.range tn).map fun i => (tl i, sf i, cf i)) ++ relay nm (hiN L ks) l st ++ relay nm L l ks = ((List.range tn).map fun i => (tl i, sf i, cf i)) ++ relay nm L l st := by
        rw [List.append_assoc, unhide HHD, relay_cut]
      rw [hms] at M8
      have h11 := hide (eq11_any fa ja (tn + rq) fc jc w8.heap.size _ w8 (((unhide M5).below (unhide HB58) (Nat.le_refl _)).mono (by omega)) M8 (by omega))
      have HB38 : Hid (Below W3.heap.size W3 w8) := (unhide HB37).trans ((unhide HB8).mono hz5)
      clear M8 hms h8 h9 HO8 HJQ
      refine (unhide h11).mono ?_
      rintro e w9 ⟨rfl, nq, rfl⟩
      have h9 : Hid (Calls Try.prog 9 #[.string nm, .slice ra s rc, .int .i64 0, .int .i64 st] (w8.drewN nq) fun e w' => e = .returned (.int .i64 rq) ∧ w8.drewN nq = w') := by
        have h := count9_any nm ra s rc A L C l 0 st _ (w8.drewN nq) ((unhide RW3).below (Below.drewN' (unhide HB38) nq) (Nat.le_refl _)) (Nat.zero_le _) hst hrn HSUM.out
        rw [Nat.sub_zero, ← relay_len, ← unhide HRQ] at h
        exact h
      clear h11
      go_wp2_with (first | (go_at_call 9; refine (unhide h9).mono ?_; rintro e w' ⟨rfl, rfl⟩))
      go_ret
      exact ⟨rfl, (unhide HBW3).trans (Below.drewN' ((unhide HB38).mono (by omega)) nq)⟩

end Go.Proofs.Qxb6630001a
