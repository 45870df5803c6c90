/-
  SEAT b6628981a: the small contracts: zzBytes (5, 9), ZZnewTurns (6), ZZturnsNext (7), ZZturnsScores (8); what a 'make' leaves; the state of the turns in memory.
-/
import Derived.Test.Qxb6628981aNext
namespace Go.Proofs.Qxb6628981a
open Go.RowKit Swrr

theorem bytes5_any (a : Option Addr) (n c : Nat) (hn : n ≤ 1048576) (w : World) :
    Calls Try.prog 5 #[.slice a n c] w fun e w' => e = .returned (.bool true) ∧ w = w' := by
  go_enter Try.func5, Try.ntmps5
  go_wp2
  go_ret
  exact ⟨rfl, rfl⟩

theorem bytes9_any (a : Option Addr) (n c : Nat) (hn : n ≤ 1048576) (w : World) :
    Calls Try.prog 9 #[.slice a n c] w fun e w' => e = .returned (.bool true) ∧ w = w' := by
  go_enter Try.func9, Try.ntmps9
  go_wp2
  go_ret
  exact ⟨rfl, rfl⟩

/-- The three cells of a 'turns'. -/
structure TAt (w : World) (bt bw bs n : Nat) (tot : Int) : Prop where
  c0 : w.cell? ⟨bt, 0, none⟩ = some (.slice (some ⟨bw, 0, none⟩) n n)
  c1 : w.cell? ⟨bt, 1, none⟩ = some (.slice (some ⟨bs, 0, none⟩) n n)
  c2 : w.cell? ⟨bt, 2, none⟩ = some (.int .i64 tot)

theorem TAt.below {w w' : World} {bt bw bs n B : Nat} {tot : Int} (h : TAt w bt bw bs n tot) (hb : Below B w w') (hB : bt < B) : TAt w' bt bw bs n tot :=
  ⟨(hb.cell (p := ⟨bt, 0, none⟩) hB).trans h.c0, (hb.cell (p := ⟨bt, 1, none⟩) hB).trans h.c1, (hb.cell (p := ⟨bt, 2, none⟩) hB).trans h.c2⟩
theorem TAt.turned {w w' : World} {bt bw bs n b : Nat} {tot : Int} (h : TAt w bt bw bs n tot) (hb : Turned b w w') (hB : bt ≠ b) : TAt w' bt bw bs n tot :=
  ⟨(hb.cell (p := ⟨bt, 0, none⟩) hB).trans h.c0, (hb.cell (p := ⟨bt, 1, none⟩) hB).trans h.c1, (hb.cell (p := ⟨bt, 2, none⟩) hB).trans h.c2⟩

theorem Blk.below {w w' : World} {b n B : Nat} {t : TypeId} {f : Nat → Int} (h : Blk w b n t f) (hb : Below B w w') (hB : b < B) : Blk w' b n t f := by
  unfold Blk at h ⊢; rw [hb.block b hB]; exact h

theorem new6_any (bw bs n : Nat) (tot : Int) (w : World) :
    Calls Try.prog 6 #[.slice (some ⟨bw, 0, none⟩) n n, .slice (some ⟨bs, 0, none⟩) n n, .int .i64 tot] w fun e w' => e = .returned (.pointer (some ⟨w.heap.size, 0, none⟩)) ∧
      TAt w' w.heap.size bw bs n tot ∧ Below w.heap.size w w' ∧ w.heap.size < w'.heap.size := by
  go_enter Try.func6, Try.ntmps6
  go_wp2
  go_ret
  exact ⟨rfl, ⟨by simp, by simp, by simp⟩, (Below.refl _ _).alloc (Nat.le_refl _) _, by simp⟩

theorem next7_any (bt bw bs n : Nat) (z s : Nat → Int) (tot : Int) (w : World) (hn : 0 < n) (hn' : n ≤ 4096)
    (ht : TAt w bt bw bs n tot) (hw : Blk w bw n 2 z) (hs : Blk w bs n 2 s) (htb : ¬ bt = bs) (hwb : ¬ bw = bs)
    (hz : ∀ i, 0 ≤ z i ∧ z i ≤ 65536) (hsb : ∀ i, -8589934592 ≤ s i ∧ s i ≤ 8589934592) (hto0 : 0 ≤ tot) (hto1 : tot ≤ 65536) :
    Calls Try.prog 7 #[.pointer (some ⟨bt, 0, none⟩)] w fun e w' => e = .returned (.int .i64 (swPick z s n)) ∧ Turned bs w w' ∧ Blk w' bs n 2 (swStep z s n tot) := by
  have H := hide (next_any bt bw bs n z s tot w hn hn' ht.c0 ht.c1 ht.c2 hw hs htb hwb hz hsb hto0 hto1)
  clear ht hw hs hz hsb
  go_enter Try.func7, Try.ntmps7
  go_wp2_with fail
  refine (unhide H).mono ?_
  rintro e w' ⟨rfl, h1, h2⟩
  go_wp2
  go_ret
  exact ⟨rfl, h1, h2⟩

theorem scores8_any (bt bw bs n : Nat) (tot : Int) (w : World) (ht : TAt w bt bw bs n tot) :
    Calls Try.prog 8 #[.pointer (some ⟨bt, 0, none⟩)] w fun e w' => e = .returned (.slice (some ⟨bs, 0, none⟩) n n) ∧ w = w' := by
  have c1 := ht.c1
  clear ht
  go_enter Try.func8, Try.ntmps8
  go_wp2
  go_ret
  exact ⟨rfl, rfl⟩

theorem Try.info2 : (Try.prog.info? 2).map (fun i => (i.zero, i.size, i.bytes)) = some (some (.int .i64 0), 1, 8) := by kernel_rfl
theorem Try.info3 : (Try.prog.info? 3).map (fun i => (i.zero, i.size, i.bytes)) = some (some (.int .i64 0), 1, 8) := by kernel_rfl

/-- What a 'make' of n numbers leaves, as the walks take it. -/
structure Made (w w' : World) (n : Nat) (t : TypeId) : Prop where
  row : Blk w' w.heap.size n t (fun _ => 0)
  below : Below w.heap.size w w'
  size : w.heap.size < w'.heap.size

theorem made_of {w w' : World} {base n : Nat} {t : TypeId} (h : w'.ownsRow base t 1 (.slice (some ⟨w.heap.size, 0, none⟩) n n) n (madeCells (Value.int .i64 0).cells (n * 1)).toList) (hg : w.grownBy w' none) : Made w w' n t :=
  ⟨blk_made h, (Below.refl _ _).grown hg (Nat.le_refl _) (fun k hk => by simp at hk), (blk_made h).lt⟩

/-- What the first loop gathers: the sum of the first k weights, none of them below 0. -/
theorem sum_round {z : Nat → Int} {k T : Nat} (hT : sumF z k = T) (h0 : 0 ≤ z k) (h1 : (T : Int) + z k ≤ 65536) (hnn : ∀ j, j < k → 0 ≤ z j) :
    ∃ T' : Nat, Value.int .i64 ((T : Int) + z k) = .int .i64 T' ∧ Hid (sumF z (k + 1) = T') ∧ T' ≤ 65536 ∧ ∀ j, j < k + 1 → 0 ≤ z j := by
  refine ⟨T + (z k).toNat, ?_, ?_, by omega, fun j hj => ?_⟩
  · rw [show ((T + (z k).toNat : Nat) : Int) = T + z k from by omega]
  · simp only [Hid, sumF, hT]; omega
  · rcases Nat.lt_or_ge j k with h | h
    · exact hnn j h
    · rw [show j = k from by omega]; exact h0

theorem fits_of {z : Nat → Int} {k T : Nat} (hT : sumF z k = T) (hnn : ∀ j, j < k → 0 ≤ z j) (hout : ∀ i, k ≤ i → z i = 0) : Fits z k T :=
  ⟨fun i => by
    rcases Nat.lt_or_ge i k with h | h
    · exact hnn i h
    · rw [hout i h]; omega, hout, hT⟩

/-- The second loop: the weights copied. -/
theorem blk_copy {wr : World} {b n k : Nat} {z : Nat → Int} (h : Blk wr b n 2 (fun i => if i < k then z i else 0)) :
    Blk (wr.setCell ⟨b, k, none⟩ (.int .i64 (z k))) b n 2 (fun i => if i < k + 1 then z i else 0) := by
  refine (h.set k (z k)).congr fun i _ => ?_
  simp only [upd]
  by_cases e : i = k
  · subst e; simp
  · by_cases e2 : i < k
    · have : i < k + 1 := by omega
      simp [e, e2, this]
    · have : ¬ i < k + 1 := by omega
      simp [e, e2, this]

theorem cell_lt {w : World} {b o : Nat} {v : Value} (h : w.cell? ⟨b, o, none⟩ = some v) : b < w.heap.size := by
  rcases Nat.lt_or_ge b w.heap.size with h' | h'
  · exact h'
  · simp [World.cell?, Array.getElem?_eq_none h'] at h

end Go.Proofs.Qxb6628981a
