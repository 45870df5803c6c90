/-
  SEAT b6630050aD: the walk of '(*Path).String' (function 9).
-/
import Derived.Test.Qxb6630050aDoorBack
import Derived.Test.Qxb6630050aDoorText
import Derived.Test.Qxb6630050aDoorShelf
import Derived.Maps.AppendAt
import Derived.Laws.IdiomStrings
import Derived.Lib.AppendIntMem
namespace Go.Proofs.Qxb6630050aDoor
open Go.RowKit Go.Shelf
attribute [local go_sem] Oper.semAt_some

/-- How long the slice in a slot is. -/
def lenOf : Value → Nat | .slice _ n _ => n | _ => 0
/-- The pointers to the last k nodes, the last first. -/
def ptrs (bk : Nat → Nat) (N k : Nat) : List Value := (List.range k).map fun i => .pointer (some ⟨bk (N - 1 - i), 0, none⟩)
theorem ptrs_succ (bk : Nat → Nat) (N k : Nat) : ptrs bk N (k + 1) = ptrs bk N k ++ [.pointer (some ⟨bk (N - 1 - k), 0, none⟩)] := by simp [ptrs, List.range_succ]

theorem Tryd.info28 : (Tryd.prog.info? 28).map (fun i => (i.zero, i.size, i.bytes)) = some (some (.pointer none), 1, 8) := by kernel_rfl

theorem own_from {w : World} {base : Nat} {e : TypeId} {size : Nat} {v : Value} {n : Nat} {xs : List Value} (h : w.ownsRow base e size v n xs) : ∀ k, v.ownBlock = some k → base ≤ k := by
  intro k hk
  rcases h.2 with ⟨h1, _⟩ | ⟨g, cap, cur, h1, hb, _⟩
  · rw [h1] at hk; simp [Value.ownBlock] at hk
  · rw [h1] at hk
    simp only [Value.ownBlock, Option.some.injEq] at hk
    omega

theorem row_of {wr : World} {base : Nat} {a : Option Addr} {k c : Nat} {bk : Nat → Nat} {o1 o2 : Obj} (h : wr.ownsRow base 28 1 (.slice a k c) k (ptrs bk k k)) (hp : 0 < k) :
    ∃ g, a = some ⟨g, 0, none⟩ ∧ g < wr.heap.size ∧ ∀ i, i < k → ((wr.alloc o1).alloc o2).cell? ⟨g, i, none⟩ = some (.pointer (some ⟨bk (k - 1 - i), 0, none⟩)) := by
  have h' := h
  rcases h.2 with ⟨_, h1⟩ | ⟨g, cap, cur, h1, hb, hh, _⟩
  · omega
  · simp only [Value.slice.injEq, true_and] at h1
    obtain ⟨rfl, rfl⟩ := h1
    have hlt := lt_of_block hh
    have hbel : Below wr.heap.size wr ((wr.alloc o1).alloc o2) := ((Below.refl _ _).alloc (Nat.le_refl _) _).alloc (by simp) _
    refine ⟨g, rfl, hlt, fun i hi => ?_⟩
    rw [hbel.cell (p := ⟨g, i, none⟩) hlt, h'.cellAt i (by omega)]
    simp [ptrs, hi]

theorem builderF_alloc {T e : TypeId} {B b : Nat} {bs : List Value} {w : World} (h : Lib.IsBuilderF T e B b bs w) (o : Obj) : Lib.IsBuilderF T e B b bs (w.alloc o) :=
  h.elim (fun x => .inl (x.alloc o)) (fun x => .inr (x.alloc o))

theorem builderAtF_grown {T e : TypeId} {B b : Nat} {p : Value} {bs : List Value} {W W' : World} {row : Option Nat} (h : Lib.BuilderAtF T e B b p bs W) (hg : W.grownBy W' row) (hr : ∀ r, row = some r → ∃ o : Obj, W.heap[r]? = some o ∧ o.isCells = false) : Lib.BuilderAtF T e B b p bs W' := by
  have hlt := h.lt
  obtain ⟨hB, v, hb, hown, hne⟩ := h
  have hnb : some b ≠ row := by
    intro e'
    obtain ⟨o, ho, hc⟩ := hr b e'.symm
    rw [hb] at ho
    cases ho
    simp [Obj.isCells] at hc
  refine ⟨hB, v, (hg.block b hlt hnb).trans hb, hown.kept hg ?_, hne⟩
  cases hv : v.ownBlock with
  | none => exact .inl rfl
  | some g =>
    refine .inr (fun e' => ?_)
    obtain ⟨o, ho, hc⟩ := hr g e'.symm
    obtain ⟨cc, fz, hcc⟩ := Lib.ownsRowF_kind hown g hv
    rw [hcc] at ho
    cases ho
    simp [Obj.isCells] at hc

theorem builder_own {N : Nat} (sp : Nat → Stp) (B b bx : Nat) (cs : Array Value) (t : TypeId) : Own (fun (pre : List (Fin N)) W => Lib.IsBuilderF 41 5 B b (Lib.byteCells (textL sp pre)) W ∧ W.heap[bx]? = some (.cells cs t (0, 0))) := fun _ _ _ _ hs hg hr =>
  ⟨hs.1.elim (fun x => .inl (builderAtF_grown x hg hr)) (fun x => .inr (builderAtF_grown x hg hr)), (hg.block bx (lt_of_block hs.2) (fun e' => by
    obtain ⟨o, ho, hc⟩ := hr bx e'.symm
    rw [hs.2] at ho
    cases ho
    simp [Obj.isCells] at hc)).trans hs.2⟩

/-- What the calls of a round leave: the builder holds bs; all below it, and every block that is no row of bytes, is as it was. -/
structure Bd (B : Nat) (W W' : World) (bs : List Value) : Prop where
  is : Lib.IsBuilderF 41 5 B B bs W'
  below : Below B W W'
  kept : Lib.OthersKept 5 (some B) W W'
theorem Bd.start {B : Nat} {W : World} {bs : List Value} (h : Lib.IsBuilderF 41 5 B B bs W) : Bd B W W bs := ⟨h, Below.refl _ _, Lib.OthersKept.refl _ _ _⟩
theorem Bd.write {B : Nat} {W W1 W2 : World} {bs bs' : List Value} (h : Bd B W W1 bs) (h1 : Lib.BuilderAtF 41 5 B B (.pointer (some ⟨B, 0, none⟩)) bs' W2 ∧ Below B W1 W2 ∧ Lib.OthersKept 5 (some B) W1 W2) : Bd B W W2 bs' :=
  ⟨.inr h1.1, h.below.trans h1.2.1, h.kept.trans h1.2.2⟩
theorem grow_grownBy (w : World) (k : Nat) (os : Array Obj) : w.grownBy (Sort.grow (w.drewN k) os) none :=
  ⟨rfl, rfl, rfl, by simp [World.drewN], fun i hi _ => Sort.heap_grow_old (w.drewN k) os hi⟩
theorem Bd.grow {B : Nat} {W W1 : World} {bs : List Value} (h : Bd B W W1 bs) (hB : B ≤ W.heap.size) (k : Nat) (os : Array Obj) : Bd B W (Sort.grow (W1.drewN k) os) bs := by
  have hg := grow_grownBy W1 k os
  refine ⟨h.is.elim (fun x => .inl (builderAtF_grown x hg (fun r e => by cases e))) (fun x => .inr (builderAtF_grown x hg (fun r e => by cases e))), h.below.grown hg (Nat.le_trans hB h.below.size) (fun r e => by cases e), h.kept.grown hg (fun g e => by cases e)⟩

theorem builderF_block {B : Nat} {W : World} {bs : List Value} (h : Lib.IsBuilderF 41 5 B B bs W) : ∃ cs, W.heap[B]? = some (.cells cs 41 (0, 0)) := by
  rcases h with ⟨_, v, hb, _⟩ | ⟨_, v, hb, _⟩
  · exact ⟨_, hb⟩
  · exact ⟨_, hb⟩

theorem Bd.keeps {B : Nat} {W W' : World} {bs bs0 : List Value} (h : Bd B W W' bs) (h0 : Lib.IsBuilderF 41 5 B B bs0 W) : KeepsOthers W W' := by
  obtain ⟨cs, hcs⟩ := builderF_block h0
  refine ⟨h.below.size, fun k o hk ho => h.kept k o hk ?_ ?_⟩
  · intro e
    cases e
    rw [hcs] at hk
    cases hk
    simp [Obj.isCells] at ho
  · rintro c fz rfl
    simp [Obj.isCells] at ho

theorem Bd.box {B bx : Nat} {W W' : World} {bs : List Value} {cs : Array Value} (h : Bd B W W' bs) (hne : bx ≠ B) (hb : W.heap[bx]? = some (.cells cs 38 (0, 0))) : W'.heap[bx]? = some (.cells cs 38 (0, 0)) :=
  h.kept bx _ hb (fun e => hne (by cases e; rfl)) (fun c fz e => by cases e)

theorem kpB_b {n₀ Bs : Nat} {w : World} (hn : n₀ ≤ w.heap.size) (hBs : Bs < w.heap.size) (W : World) (l : Nat) (o o' : Obj) (hl : w.heap.size ≤ l) (h : W.heap[l]? = some o) (h1 : o.isCells = false) (h2 : o.isWalk = false) : KpB n₀ Bs W (W.putObj l o') :=
  ⟨belowK_b hn W l o o' hl h h1 h2, World.putObj_heap_other (by omega)⟩

set_option maxRecDepth 100000 in
set_option maxHeartbeats 2000000 in
theorem string9_any (bk : Nat → Nat) (sp : Nat → Stp) (N B : Nat) (w : World) (hp : PathAt w B bk sp N) (hB : B ≤ w.heap.size) (hN : N ≤ 65536) (hok : ∀ i, i < N → StpSmall (sp i))
    (htab : Lib.TabIs Tryd.prog w "internal/strconv.uint64pow10" .u64 Lib.pow10Tab) :
    Calls Tryd.prog 9 #[.pointer (ptrTo bk N)] w fun e w' => e = .returned (.string ⟨(textN sp N).toArray⟩) ∧ Below w.heap.size w w' := by
  obtain ⟨i28, hi28, hz0, hz1, hz2⟩ := info_parts Tryd.info28
  have HP := hide hp
  have HOK := hide hok
  have HTAB := hide htab
  clear hp hok htab
  refine (callsIn_wide (n := 6)).1 ?_
  refine callsIn_of_wp_marks Tryd.func9 rfl trivial ?_ rfl
  simp only [Tryd.ntmps9, List.size_toArray, List.length_cons, List.length_nil, Nat.reduceAdd, Nat.reduceSub, Array.replicate_succ, Array.replicate_zero, List.push_toArray, List.append_toArray, List.nil_append, List.cons_append]
  gi_wp2
  gi_loopw [3, 4] (fun v q wr => ∃ (k : Nat) (a : Option Addr) (c : Nat) (pq : Option Addr), k ≤ N ∧ v = .slice a k c ∧ q = .pointer pq ∧ Hid (pq = ptrTo bk (N - k)) ∧ wr.ownsRow w.heap.size 28 1 (.slice a k c) k (ptrs bk N k) ∧ Below w.heap.size w wr) (fun v _ _ => N - lenOf v)
  case atStart => exact ⟨0, none, 0, ptrTo bk N, by omega, rfl, rfl, rfl, World.ownsRow_nil _ _ _ _, Below.refl _ _⟩
  case round =>
    obtain ⟨k, a, c, pq, hk, rfl, rfl, hpq, hown, hbel⟩ := hrel
    by_cases hlt : k < N
    · obtain rfl : pq = some ⟨bk (N - 1 - k), 0, none⟩ := by rw [hpq.out, show N - k = (N - 1 - k) + 1 by omega, ptrTo_succ]
      have nd := (HP.out (N - 1 - k) (by omega)).below hbel hB
      have hlt2 : bk (N - 1 - k) < wr.heap.size := by have := nd.lt; have := hbel.size; omega
      have c0 := nd.up
      obtain ⟨up, hup⟩ : ∃ up, up = ptrTo bk (N - 1 - k) := ⟨_, rfl⟩
      rw [← hup] at c0
      have HUP := hide hup
      clear nd hup
      gi_wp2_with (gi_at_builtin; refine wpListIn_append_own _ rfl (.tmp 15) (.tmp 17) 38 (by rfl) w.heap.size 28 i28 (.pointer none) 1 8 Tryd.underlying38 hi28 hz0 hz1 hz2 rfl (by decide) (.slice a k c) k (ptrs bk N k) (by rfl) (hown.alloc _) ⟨wr.heap.size, 0, none⟩ 1 1 [.pointer (some ⟨bk (N - 1 - k), 0, none⟩)] (by rfl) rfl (cell_one_new _ _ _) (by simp [Value.oneCell']) (by unfold maxLen; omega) (by omega) (by have := hbel.size; simp; omega) ?_)
      intro v' w1 hown' hgrow _
      obtain ⟨g', cap', rfl⟩ := ownsRow_succ hown'
      have hbel1 : Below w.heap.size w w1 := (hbel.alloc (by have := hbel.size; omega) _).grown hgrow (by have := hbel.size; simp; omega) (own_from hown)
      have c1 := ((HP.out (N - 1 - k) (by omega)).below hbel1 hB).up
      rw [← HUP.out] at c1
      rw [← ptrs_succ] at hown'
      have HO := hide hown'
      clear hown' hgrow hown c0
      gi_wp2
      go_roundw
      case rel =>
        first
          | exact ⟨k + 1, some ⟨g', 0, none⟩, cap', up, by omega, rfl, rfl, hide (by rw [HUP.out, show N - (k + 1) = N - 1 - k by omega]), HO.out, hbel1⟩
          | ((repeat apply Exists.intro); refine ⟨?_, rfl⟩; exact ⟨k + 1, some ⟨g', 0, none⟩, cap', up, by omega, rfl, rfl, hide (by rw [HUP.out, show N - (k + 1) = N - 1 - k by omega]), HO.out, hbel1⟩)
      case measure => simp [lenOf]; omega
    · obtain rfl : k = N := by omega
      obtain rfl : pq = none := by rw [hpq.out, Nat.sub_self]; rfl
      gi_wp2_with (refine ⟨trivial, ?_⟩; gi_at_call 13; refine (back13_in _ _ _ _ _).mono ?_; rintro e w' ⟨rfl, rfl⟩)
      have hrow : 0 < k → ∃ g, a = some ⟨g, 0, none⟩ ∧ g < wr.heap.size ∧ ∀ i, i < k → ((wr.alloc (.cells #[.pointer none, .slice none 0 0] 41)).alloc (.cells #[.slice a k c] 38)).cell? ⟨g, i, none⟩ = some (.pointer (some ⟨bk (k - 1 - i), 0, none⟩)) := fun hp => row_of hown hp
      have hbox : ((wr.alloc (.cells #[.pointer none, .slice none 0 0] 41)).alloc (.cells #[.slice a k c] 38)).cell? ⟨wr.heap.size + 1, 0, none⟩ = some (.slice a k c) := by
        have := World.cell?_alloc_mark (wr.alloc (.cells #[.pointer none, .slice none 0 0] 41)) #[.slice a k c] 38 (0, 0) 0
        rw [World.size_alloc] at this
        rw [this]; rfl
      have hb1 : Below wr.heap.size wr ((wr.alloc (.cells #[.pointer none, .slice none 0 0] 41)).alloc (.cells #[.slice a k c] 38)) := ((Below.refl _ _).alloc (Nat.le_refl _) _).alloc (by simp) _
      have hbx : ((wr.alloc (.cells #[.pointer none, .slice none 0 0] 41)).alloc (.cells #[.slice a k c] 38)).heap[wr.heap.size + 1]? = some (.cells #[.slice a k c] 38 (0, 0)) := by
        have := heap_alloc_new (wr.alloc (.cells #[.pointer none, .slice none 0 0] 41)) (.cells #[.slice a k c] 38)
        rwa [World.size_alloc] at this
      have hI0 : Lib.IsBuilderF 41 5 wr.heap.size wr.heap.size (Lib.byteCells (textL sp ([] : List (Fin k)))) ((wr.alloc (.cells #[.pointer none, .slice none 0 0] 41)).alloc (.cells #[.slice a k c] 38)) := builderF_alloc (Lib.IsBuilderF.of (Lib.fresh_isBuilder 41 5 wr)) _
      refine wpIn_rangeFunc_ownF rfl (by omega) (gf := 19) (lb := #[.pointer (some ⟨wr.heap.size + 1, 0, none⟩)]) rfl trivial (enters_of Tryd.func19 (by kernel_rfl) rfl)
        (back_stops (6 - 1) (by omega) (wr.heap.size + 1) wr.heap.size k c a bk hN _ (by simp) (by simp; omega) hbox hrow) (fun h k => h.trans k) (fun W l o o' hl h h1 h2 => kpB_b (by simp; omega) (by simp) W l o o' hl h h1 h2) (Below.refl _ _) (fun _ => rfl)
        (fun pre W => (Lib.IsBuilderF 41 5 wr.heap.size wr.heap.size (Lib.byteCells (textL sp pre)) W ∧ W.heap[wr.heap.size + 1]? = some (.cells #[.slice a k c] 38 (0, 0))) ∧ Below wr.heap.size wr W) (fun _ _ _ => False)
        (OwnFrom.and (Own.from (builder_own sp _ _ _ _ _) _) (ownFrom_below (Nat.le_refl _) (by simp; omega))) (fun _ _ _ _ _ hs _ _ => hs) ⟨⟨hI0, hbx⟩, hb1⟩
        (fun x => { tmps := #[.pointer (ptrTo bk k), undef, .string { data := #[] }, .slice a k c, .pointer none, .pointer (some ⟨wr.heap.size, 0, none⟩), undef, .pointer (some ⟨bk x.1, 0, none⟩), .pointer (ptrTo bk k), .pointer none, .bool false, u11, u12, u13, u14, u15, u16, u17, u18, .slice a k c, .func (.func 19) #[] #[.pointer (some ⟨wr.heap.size + 1, 0, none⟩)], .int .i64 ((k : Int) - 1 - (x.1 : Int)), .pointer (some ⟨bk x.1, 0, none⟩), undef, undef, undef, undef, undef, undef, undef, undef, undef, undef, undef, undef, undef, undef, undef, undef, undef, undef, undef, undef, undef], defers := [] }) ?assign ?body ?done ?stop
      case assign =>
        intro l x W K hK
        dsimp only [encB]
        gi_wp2
        exact hK
      case body =>
        rintro l pre x W ⟨⟨hI, hbox2⟩, hB1⟩ hlen
        have bb : Below w.heap.size w W := hbel.trans (hB1.mono hbel.size)
        have nd := (HP.out x.1 x.2).below bb hB
        have hbkB : bk x.1 < wr.heap.size := by have := nd.lt; have := hbel.size; omega
        have sm := HOK.out x.1 x.2
        have hsz : wr.heap.size ≤ W.heap.size := hB1.size
        have htl := textL_le HOK.out pre
        have hbl : (Lib.byteCells (textL sp pre)).length ≤ 100000000000 := by rw [Lib.byteCells_length]; omega
        have TT : Hid (∀ W1, Below w.heap.size w W1 → Lib.TabIs Tryd.prog W1 "internal/strconv.uint64pow10" .u64 Lib.pow10Tab) := fun W1 hb => Lib.tabBelow_of_tabIs HTAB.out W1 hb
        have BB := hide bb
        have D0 := Bd.start hI
        have cEl := nd.el
        have fin : ∀ (W' : World) (bs : List Value), Bd wr.heap.size W W' bs → bs = Lib.byteCells (textL sp (pre ++ [x])) → KeepsOthers W W' ∧ KpB wr.heap.size (wr.heap.size + 1) W W' ∧ (Lib.IsBuilderF 41 5 wr.heap.size wr.heap.size (Lib.byteCells (textL sp (pre ++ [x]))) W' ∧ W'.heap[wr.heap.size + 1]? = some (.cells #[.slice a k c] 38 (0, 0))) ∧ Below wr.heap.size wr W' := by
          rintro W' bs hD rfl
          have hx := hD.box (by omega) hbox2
          exact ⟨hD.keeps hI, ⟨hD.below, hx.trans hbox2.symm⟩, ⟨hD.is, hx⟩, hB1.trans hD.below⟩
        have FIN := hide fin
        have hd3 : 1 ≤ 3 := by omega
        clear bb fin hI hbox2 hrow hbox hb1 hI0 hbx htl
        cases hel : (sp x.1).el
        · rw [hel] at cEl
          gi_wp2_with fail
          refine ⟨trivial, ?_⟩
          refine (CallsIn.inRound l (callsIn_wide.2 (Tryd.Builder_Len_f _ _ _ _ D0.is))).mono ?_
          rintro e w' ⟨rfl, rfl⟩
          by_cases hem : (textL sp pre).length = 0
          · have hem0 : textL sp pre = [] := List.eq_nil_of_length_eq_zero hem
            have hemB : ((Lib.byteCells (textL sp pre)).length : Int) = 0 := by rw [Lib.byteCells_length]; omega
            have cNm := nd.name
            gi_wp2_with fail
            refine ⟨trivial, ?_⟩
            refine (CallsIn.inRound l (callsIn_wide.2 (Tryd.Builder_WriteString_k _ _ _ _ _ D0.is (by have := sm.name; omega) hsz))).mono ?_
            rintro e W1 ⟨rfl, hw1⟩
            have D1 := D0.write hw1
            gi_wp2
            exact FIN.out _ _ D1 (by rw [textL_snoc]; unfold stepText; rw [hel, hem0]; rfl)
          · have hemB : ¬ ((Lib.byteCells (textL sp pre)).length : Int) = 0 := by rw [Lib.byteCells_length]; omega
            have hemC : (0 : Int) < ((Lib.byteCells (textL sp pre)).length : Int) := by omega
            gi_wp2_with fail
            refine ⟨trivial, ?_⟩
            refine (CallsIn.inRound l (callsIn_wide.2 (Tryd.Builder_WriteByte_k _ _ _ _ _ D0.is (by omega) hsz))).mono ?_
            rintro e W1 ⟨rfl, hw1⟩
            have D1 := D0.write hw1
            have cNm := (nd.name.symm.trans ((D1.below.cell (p := ⟨bk x.1, 2, none⟩) hbkB).symm)).symm
            gi_wp2_with fail
            refine ⟨trivial, ?_⟩
            refine (CallsIn.inRound l (callsIn_wide.2 (Tryd.Builder_WriteString_k _ _ _ _ _ D1.is (by have := sm.name; simp only [List.length_append, List.length_cons, List.length_nil]; omega) (Nat.le_trans hsz D1.below.size)))).mono ?_
            rintro e W2 ⟨rfl, hw2⟩
            have D2 := D1.write hw2
            gi_wp2
            exact FIN.out _ _ D2 (by
              rw [textL_snoc]; unfold stepText
              have hne : (textL sp pre).isEmpty = false := by
                cases h : textL sp pre with
                | nil => rw [h] at hem; simp at hem
                | cons _ _ => rfl
              rw [hel, hne, Lib.strCells_eq]
              simp [Lib.byteCells])
        · rw [hel] at cEl
          gi_wp2_with fail
          refine ⟨trivial, ?_⟩
          refine (CallsIn.inRound l (callsIn_wide.2 (Tryd.Builder_WriteByte_k _ _ _ _ _ D0.is (by omega) hsz))).mono ?_
          rintro e W1 ⟨rfl, hw1⟩
          have D1 := D0.write hw1
          have cIx := (nd.idx.symm.trans ((D1.below.cell (p := ⟨bk x.1, 3, none⟩) hbkB).symm)).symm
          gi_wp2_with fail
          refine ⟨trivial, ?_⟩
          refine (CallsIn.inRound l (callsIn_wide.2 (Tryd.strconv_Itoa _ sm.lo sm.hi _ (TT.out _ (BB.out.trans (D1.below.mono hbel.size)))))).mono ?_
          rintro e W2 ⟨rfl, kk, os, rfl⟩
          have D2 := D1.grow hsz kk os
          obtain ⟨W2, hW2⟩ : ∃ W2, W2 = Sort.grow (W1.drewN kk) os := ⟨_, rfl⟩
          rw [← hW2] at D2 ⊢
          clear hW2
          have hil := itoa_le _ sm.lo sm.hi
          gi_wp2_with fail
          refine ⟨trivial, ?_⟩
          refine (CallsIn.inRound l (callsIn_wide.2 (Tryd.Builder_WriteString_k _ _ _ _ _ D2.is (by simp only [List.length_append, List.length_cons, List.length_nil, ByteArray.size, List.size_toArray]; omega) (Nat.le_trans hsz D2.below.size)))).mono ?_
          rintro e W3 ⟨rfl, hw3⟩
          have D3 := D2.write hw3
          gi_wp2_with fail
          refine ⟨trivial, ?_⟩
          refine (CallsIn.inRound l (callsIn_wide.2 (Tryd.Builder_WriteByte_k _ _ _ _ _ D3.is (by simp only [List.length_append, List.length_cons, List.length_nil, Lib.strCells_length, ByteArray.size, List.size_toArray]; omega) (Nat.le_trans hsz D3.below.size)))).mono ?_
          rintro e W4 ⟨rfl, hw4⟩
          have D4 := D3.write hw4
          gi_wp2
          exact FIN.out _ _ D4 (by
            rw [textL_snoc]; unfold stepText
            rw [hel, Lib.strCells_eq]
            simp [Lib.byteCells])
      case done =>
        rintro D ys W hD rfl ⟨⟨hI, hbox2⟩, hB1⟩ hK
        rw [textL_all] at hI
        have hsz : wr.heap.size ≤ W.heap.size := hB1.size
        clear hbox2 hrow hbox hb1 hI0 hbx
        gi_wp2_with fail
        refine ⟨trivial, ?_⟩
        refine (callsIn_wide.2 (Tryd.Builder_String_any_k _ _ _ _ hI hsz)).mono ?_
        rintro e W5 ⟨rfl, _, hb5, hk5⟩
        have hK5 : W5.heap[D]? = some (.deferred (some [])) := hk5 D _ hK (fun e => by cases e; simp at hD; omega) (fun c fz e => by cases e)
        have hbel5 : Below w.heap.size w W5 := hbel.trans ((hB1.trans hb5).mono hbel.size)
        have HB5 := hide hbel5
        clear hb5 hk5 hbel5
        gi_wp2
        refine ⟨by simp, .inl ⟨_, _, rfl, run_takeDeferred hK5, ?_⟩⟩
        exact ⟨_, results_tmp rfl _ _ _, rfl, HB5.out.trans (belowK_b (w := w) (Nat.le_refl _) W5 D _ _ (by have := hbel.size; simp at hD; omega) hK5 rfl rfl)⟩
      case stop =>
        rintro D c pre W _ _ h _
        exact h.elim

end Go.Proofs.Qxb6630050aDoor
