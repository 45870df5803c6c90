/-
  SEAT b6630001a: the walk of '(Table).Relay' (function 8).
-/
import Derived.Test.Qxb6630001aPre
import Derived.Deep.AppendLies
namespace Go.Proofs.Qxb6630001a
open Go.RowKit Ry

/-- What the loops of 'Relay' hold: the slice v owns the messages ms; the receiver's box is as it was; so is all below B. -/
structure RInv (w wr : World) (B tb : Nat) (nm : ByteArray) (ra : Option Addr) (rn rc : Nat) (v : Value) (q : Nat) (ms : List Msg) : Prop where
  own : wr.ownsRow B 33 3 v q (cellsM ms)
  box : wr.heap[tb]? = some (.cells #[.string nm, .slice ra rn rc] 28 (0, 0))
  below : Below B w wr

theorem RInv.c0 {w wr : World} {B tb : Nat} {nm : ByteArray} {ra : Option Addr} {rn rc : Nat} {v : Value} {q : Nat} {ms : List Msg} (h : RInv w wr B tb nm ra rn rc v q ms) : wr.cell? ⟨tb, 0, none⟩ = some (.string nm) := by
  simp [World.cell?, h.box]
theorem RInv.c1 {w wr : World} {B tb : Nat} {nm : ByteArray} {ra : Option Addr} {rn rc : Nat} {v : Value} {q : Nat} {ms : List Msg} (h : RInv w wr B tb nm ra rn rc v q ms) : wr.cell? ⟨tb, 1, none⟩ = some (.slice ra rn rc) := by
  simp [World.cell?, h.box]

theorem cellsM_append (a b : List Msg) : cellsM (a ++ b) = cellsM a ++ cellsM b := by simp [cellsM]

theorem RInv.step {w wr w1 : World} {B tb : Nat} {nm : ByteArray} {ra : Option Addr} {rn rc : Nat} {v v' : Value} {q : Nat} {ms : List Msg} (h : RInv w wr B tb nm ra rn rc v q ms) (hB : B ≤ wr.heap.size) (o : Obj)
    (m : Msg) (hown : w1.ownsRow B 33 3 v' (q + 1) (cellsM ms ++ mcells m)) (hg : (wr.alloc o).grownBy w1 v.ownBlock) : RInv w w1 B tb nm ra rn rc v' (q + 1) (ms ++ [m]) := by
  have hne : some tb ≠ v.ownBlock := by
    intro e
    rcases h.own.2 with ⟨h1, _⟩ | ⟨g, cap, cur, h1, _, hh, _⟩
    · rw [h1] at e; simp [Value.ownBlock] at e
    · rw [h1] at e
      simp only [Value.ownBlock, Option.some.injEq] at e
      rw [← e, h.box] at hh
      simp at hh
  have hlt := lt_of_block h.box
  refine ⟨?_, ?_, ?_⟩
  · rw [cellsM_append]
    have : cellsM [m] = mcells m := by simp [cellsM]
    rw [this]; exact hown
  · rw [hg.block tb (by simp; omega) hne, Below.heap_alloc _ _ _ hlt]; exact h.box
  · refine (h.below.alloc hB o).grown hg (by simp; omega) (fun k hk => ?_)
    rcases h.own.2 with ⟨h1, _⟩ | ⟨g, cap, cur, h1, hb, hh, _⟩
    · rw [h1] at hk; simp [Value.ownBlock] at hk
    · rw [h1] at hk
      simp only [Value.ownBlock, Option.some.injEq] at hk
      omega

theorem msg_news (wr : World) (a : ByteArray) (b c : Int) : ∀ j u, (mcells (a, b, c))[j]? = some u → (wr.alloc (.cells #[.string a, .int .i64 b, .int .i64 c] 33)).cell? ((⟨wr.heap.size, 0, none⟩ : Addr).add j) = some u := by
  intro j u hj
  rw [Addr.add_lit]
  match j, hj with
  | 0, hj => simp [mcells] at hj; subst hj; simp
  | 1, hj => simp [mcells] at hj; subst hj; simp
  | 2, hj => simp [mcells] at hj; subst hj; simp
  | j + 3, hj => simp [mcells] at hj

theorem msg_one (m : Msg) : ∀ u ∈ mcells m, u.oneCell' = true := by
  intro u hu
  simp [mcells] at hu
  rcases hu with rfl | rfl | rfl <;> rfl

set_option maxHeartbeats 2000000 in
set_option maxRecDepth 10000 in
theorem relay8_any (nm : ByteArray) (ra : Option Addr) (rn rc : Nat) (A : Nat → Option Addr) (L C : Nat → Nat) (l : Nat → Nat → ByteArray) (st : Nat) (oa : Option Addr) (m oc : Nat) (ms : List Msg) (B : Nat) (w : World)
    (hr : RowsIn w B ra rn A L C l) (hst : st ≤ rn) (hrn : rn ≤ 65536) (hsum : sumN L rn ≤ 65536) (hm : m ≤ 200000) (hown : w.ownsRow B 33 3 (.slice oa m oc) m (cellsM ms)) (hB : B ≤ w.heap.size) :
    Calls Try.prog 8 #[.agg #[.string nm, .slice ra rn rc], .int .i64 st, .slice oa m oc] w fun e w' => ∃ oa' q oc', e = .returned (.slice oa' q oc') ∧ q = m + (relay nm L l st).length ∧
      w'.ownsRow B 33 3 (.slice oa' q oc') q (cellsM (ms ++ relay nm L l st)) ∧ Below B w w' := by
  obtain ⟨i3, hi3, hz30, hz31, hz32⟩ := info_parts Try.info33
  have R0 : RInv w (w.alloc (.cells #[.string nm, .slice ra rn rc] 28)) B w.heap.size nm ra rn rc (.slice oa m oc) m (ms ++ []) :=
    ⟨by rw [List.append_nil]; exact hown.alloc _, heap_alloc_new w _, (Below.refl _ _).alloc hB _⟩
  clear hown
  go_enter Try.func8, Try.ntmps8
  go_wp2
  go_loopw [2, 7] (fun v i wr => ∃ (s : Nat) (a' : Option Addr) (q c' : Nat) (done : List Msg), s ≤ st ∧ i = .int .i64 s ∧ v = .slice a' q c' ∧ Hid (relay nm L l st = done ++ relay nm L l s) ∧ Hid (q = m + done.length) ∧ q + sumN L s ≤ m + sumN L st ∧
      RInv w wr B w.heap.size nm ra rn rc (.slice a' q c') q (ms ++ done)) (fun _ i _ => (intOf i).toNat)
  case atStart => exact ⟨st, oa, m, oc, [], Nat.le_refl _, rfl, rfl, rfl, rfl, Nat.le_refl _, R0⟩
  case round =>
    obtain ⟨s, a', q, c', done, hs, rfl, rfl, hdone, hq, hqs, R⟩ := hrel
    rcases Nat.eq_zero_or_pos s with h0 | h0
    · subst h0
      go_wp2
      go_ret
      have e : relay nm L l st = done := by rw [hdone.out]; simp [relay]
      exact ⟨a', q, c', rfl, by rw [e]; exact hq.out, by rw [e]; exact R.own, R.below⟩
    · obtain ⟨k, rfl⟩ : ∃ k, s = k + 1 := ⟨s - 1, by omega⟩
      obtain ⟨wo, rfl⟩ : ∃ wo : World, wo = wr := ⟨_, rfl⟩
      obtain ⟨b, off, rfl, hb, hcell⟩ := hr.row (by omega)
      have hx := hr.each k (by omega)
      have hLk := sumN_le L (k := k) (n := rn) (by omega)
      have hsk : sumN L (k + 1) = sumN L k + L k := rfl
      have hst' := sumN_mono L (a := st) (b := rn) hst
      have hq1 : q ≤ 265536 := by omega
      have hL1 : L k ≤ 65536 := by omega
      have hge : (1 : Int) ≤ (k : Int) + 1 := by omega
      have hqs' := hide hqs
      have hsk' := hide hsk
      have c1 := (R.below.cell (p := ⟨b, off + k, none⟩) hb).trans (hcell k (by omega))
      obtain ⟨ak, hak⟩ : ∃ ak, ak = A k := ⟨_, rfl⟩
      rw [← hak] at c1 hx
      have r0 := R.c0
      have r1 := R.c1
      clear hr hcell hak R0 hLk hsk hst' hqs
      go_wp2
      go_loopw [2, 22] (fun v i wr => ∃ (j : Nat) (a2 : Option Addr) (q2 c2 : Nat), j ≤ L k ∧ i = .int .i64 j ∧ v = .slice a2 q2 c2 ∧ Hid (q2 = q + (rowMsgs nm k (l k) j).length) ∧ q2 ≤ q + j ∧
          RInv w wr B w.heap.size nm (some ⟨b, off, none⟩) rn rc (.slice a2 q2 c2) q2 (ms ++ (done ++ rowMsgs nm k (l k) j))) (fun _ i _ => L k - (intOf i).toNat)
      case atStart => exact ⟨0, a', q, c', Nat.zero_le _, rfl, rfl, rfl, Nat.le_refl _, by rw [show rowMsgs nm k (l k) 0 = [] from rfl, List.append_nil]; exact R⟩
      case round =>
        obtain ⟨j, a2, q2, c2, hj, rfl, rfl, hq2, hq3, R2⟩ := hrel
        clear R c1 r0 r1
        by_cases hlt2 : j < L k
        · obtain ⟨b2, off2, rfl, hb2, hcell2⟩ := hx.row (by omega)
          have d1 := (R2.below.cell (p := ⟨b2, off2 + j, none⟩) hb2).trans (hcell2 j hlt2)
          have r0 := R2.c0
          have hsz : B ≤ wr.heap.size := by have := R2.below.size; omega
          clear hcell2 hx
          cases ho : other nm (l k j)
          · have ho' : (!(l k j).toList == nm.toList) = false := ho
            have HO := hide ho
            clear ho
            go_wp2
            go_roundw
            case rel => exact ⟨j + 1, a2, q2, c2, by omega, by go_num, rfl, by rw [Hid, rowMsgs_no HO.out]; exact hq2.out, by omega, by rw [rowMsgs_no HO.out]; exact R2⟩
            case measure => simp [intOf]; omega
          · have ho' : (!(l k j).toList == nm.toList) = true := ho
            have HO := hide ho
            clear ho
            go_wp2_with (at_builtin; refine wpList_append_lies _ rfl (.tmp 31) (.tmp 37) 29 (by rfl) B 33 i3 _ 3 32 Try.underlying29 hi3 hz30 hz31 hz32 rfl (by omega) (.slice a2 q2 c2) q2 (cellsM (ms ++ (done ++ rowMsgs nm k (l k) j))) (by rfl) (R2.own.alloc _) ⟨wr.heap.size, 0, none⟩ 1 1 (mcells (l k j, (k : Int), (j : Int))) (by rfl) rfl (msg_news wr _ _ _) (msg_one _) (by omega) (by unfold maxLen; omega) (by omega) (by simp; omega) (wr.heap.size + 1) (by simp) ?_)
            intro g cap w1 hown1 hgrow1 _ _
            have R3 := R2.step hsz _ (l k j, (k : Int), (j : Int)) hown1 hgrow1
            clear hown1 hgrow1
            go_wp2
            go_roundw
            case rel =>
              (repeat apply Exists.intro)
              refine ⟨?_, rfl⟩
              exact ⟨j + 1, some ⟨g, 0, none⟩, q2 + 1, cap, by omega, by go_num, rfl, hide (by rw [rowMsgs_yes HO.out, hq2.out]; simp; omega), by omega, by rw [rowMsgs_yes HO.out, ← List.append_assoc, ← List.append_assoc, List.append_assoc ms]; exact R3⟩
            case measure => simp [intOf]; omega
        · obtain rfl : j = L k := by omega
          clear hx
          go_wp2
          go_roundw
          case rel => exact ⟨k, a2, q2, c2, done ++ rowMsgs nm k (l k) (L k), by omega, by go_num, rfl, hide (by rw [hdone.out, List.append_assoc]; rfl), hide (by rw [hq2.out, hq.out, List.length_append]; omega), by have := hqs'.out; have := hsk'.out; omega, R2⟩
          case measure => simp [intOf]

end Go.Proofs.Qxb6630001a
