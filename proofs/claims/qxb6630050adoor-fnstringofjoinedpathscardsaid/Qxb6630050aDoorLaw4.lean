/-
  SEAT b6630050aD: the second law's walk.
-/
import Derived.Test.Qxb6630050aDoorLaw3
import Derived.Test.Qxb6630050aDoorJoin
import Derived.Lib.AppendStr
import Derived.Deep.AppendLies
namespace Go.Proofs.Qxb6630050aDoor
open Go.RowKit

theorem size_data (s : ByteArray) : s.data.toList.length = s.size := Array.length_toList

theorem ext_suffix {S T : ByteArray} (h : T.data.toList <:+ S.data.toList) : (S.extract (S.size - T.size) S.size).toList = T.toList := by
  obtain ⟨p, hp⟩ := h
  have hl : p.length + T.size = S.size := by rw [← size_data, ← size_data S, ← hp, List.length_append]
  rw [ByteArray.toList_eq, ByteArray.toList_eq, Lib.extract_data, ← hp, List.drop_left' (by omega)]
  exact List.take_of_length_le (by rw [size_data]; omega)

theorem suffix12_any (S T : ByteArray) (hS : S.size ≤ maxLen) (h : T.data.toList <:+ S.data.toList) (w : World) :
    Calls Tryd.prog 12 #[.string S, .string T] w fun e w' => e = .returned (.bool true) ∧ w = w' := by
  have hle : T.size ≤ S.size := by
    have := h.length_le
    rwa [size_data, size_data] at this
  unfold maxLen at hS
  go_enter Tryd.func12, Tryd.ntmps12
  go_wp2
  go_ret
  refine ⟨?_, rfl⟩
  show Ending.returned (.bool _) = _
  rw [ext_suffix h]
  simp

/-! ### The buffer -/
theorem Tryd.info5 : (Tryd.prog.info? 5).map (fun i => (i.zero, i.size, i.bytes)) = some (some (.int .u8 0), 1, 1) := by kernel_rfl
def cells8 (l : List UInt8) : List Value := l.map fun b => Value.int .u8 b.toNat
structure BufAt (w0 wr : World) (g cap q : Nat) (l : List UInt8) : Prop where
  own : wr.ownsRow w0.heap.size 5 1 (.slice (some ⟨g, 0, none⟩) q cap) q (cells8 l)
  len : q = l.length
  below : Below w0.heap.size w0 wr
theorem ownsRow_pos {w : World} {base : Nat} {e : TypeId} {v : Value} {n : Nat} {xs : List Value} (h : w.ownsRow base e 1 v n xs) (hn : 0 < n) : ∃ g cap, v = .slice (some ⟨g, 0, none⟩) n cap := by
  rcases h.2 with ⟨_, h0⟩ | ⟨g, cap, _, h1, _⟩
  · omega
  · exact ⟨g, cap, h1⟩
theorem BufAt.start {w0 w1 : World} {cap : Nat} (h : w1.ownsRow w0.heap.size 5 1 (.slice (some ⟨w0.heap.size, 0, none⟩) 0 cap) 0 []) (hg : w0.grownBy w1 none) : BufAt w0 w1 w0.heap.size cap 0 [] :=
  ⟨h, rfl, (Below.refl _ _).grown hg (Nat.le_refl _) (fun k hk => by cases hk)⟩
theorem BufAt.dot {w0 wr w1 : World} {g cap q g' cap' : Nat} {l : List UInt8} (h : BufAt w0 wr g cap q l) (o : Obj) (hown : w1.ownsRow w0.heap.size 5 1 (.slice (some ⟨g', 0, none⟩) (q + 1) cap') (q + 1) (cells8 l ++ [.int .u8 46]))
    (hg : (wr.alloc o).grownBy w1 (Value.slice (some ⟨g, 0, none⟩) q cap).ownBlock) : BufAt w0 w1 g' cap' (q + 1) (l ++ [46]) := by
  refine ⟨?_, by rw [h.len]; simp, (h.below.alloc h.below.size _).grown hg (by have := h.below.size; simp; omega) (own_from h.own)⟩
  have : cells8 (l ++ [46]) = cells8 l ++ [.int .u8 46] := by simp [cells8]
  rw [this]; exact hown
theorem BufAt.str {w0 wr w1 : World} {g cap q g' cap' : Nat} {l : List UInt8} (h : BufAt w0 wr g cap q l) {B : ByteArray} (hown : w1.ownsRow w0.heap.size 5 1 (.slice (some ⟨g', 0, none⟩) (q + B.size) cap') (q + B.size) (cells8 l ++ Lib.strCells B))
    (hg : wr.grownBy w1 (Value.slice (some ⟨g, 0, none⟩) q cap).ownBlock) : BufAt w0 w1 g' cap' (q + B.size) (l ++ B.data.toList) := by
  refine ⟨?_, by rw [h.len, List.length_append, size_data], h.below.grown hg h.below.size (own_from h.own)⟩
  have : cells8 (l ++ B.data.toList) = cells8 l ++ Lib.strCells B := by simp [cells8, Lib.strCells]
  rw [this]; exact hown
theorem BufAt.conv {w0 wr : World} {g cap q : Nat} {l : List UInt8} (h : BufAt w0 wr g cap q l) : (convert 34 9 (.slice (some ⟨g, 0, none⟩) q cap)).run Tryd.prog wr = .ok (.string ⟨l.toArray⟩) wr := by
  rw [h.len]
  refine run_convert_bytes_back (P := Tryd.prog) wr 34 9 5 ⟨g, 0, none⟩ cap l Tryd.underlying34 Tryd.underlying5 Tryd.underlying9 (fun j hj => ?_)
  refine h.own.cells (g := g) rfl j _ ?_
  simp [cells8, hj]
theorem BufAt.str0 {w0 wr w1 : World} {g cap g' cap' : Nat} (h : BufAt w0 wr g cap 0 []) {B : ByteArray} (hown : w1.ownsRow w0.heap.size 5 1 (.slice (some ⟨g', 0, none⟩) B.size cap') B.size (cells8 [] ++ Lib.strCells B))
    (hg : wr.grownBy w1 (Value.slice (some ⟨g, 0, none⟩) 0 cap).ownBlock) : BufAt w0 w1 g' cap' B.size B.data.toList := by
  have := h.str (B := B) (g' := g') (cap' := cap') (by rw [Nat.zero_add]; exact hown) hg
  rw [Nat.zero_add] at this
  exact this
theorem steps_at {w : World} {B bb off n : Nat} {f : Nat → Stp} (h : StepsIn w B (some ⟨bb, off, none⟩) n f) (i : Nat) (hi : i < n) :
    bb < B ∧ w.cell? ⟨bb, off + i * 3, none⟩ = some (.bool (f i).el) ∧ w.cell? ⟨bb, off + i * 3 + 1, none⟩ = some (.string (f i).name) ∧ w.cell? ⟨bb, off + i * 3 + 2, none⟩ = some (.int .i64 (f i).idx) := by
  obtain ⟨b, o, he, hb, hc⟩ := h.row (by omega)
  simp only [Option.some.injEq, Addr.mk.injEq, and_true] at he
  obtain ⟨rfl, rfl⟩ := he
  exact ⟨hb, hc i hi⟩
theorem alloc_next {w w1 w2 : World} (h : Below w.heap.size w w1) (o : Obj) (hb : Below (w1.alloc o).heap.size (w1.alloc o) w2) : Below w.heap.size w w2 :=
  (h.alloc h.size o).trans (hb.mono (by have := h.size; simp; omega))

/-- where the law's walk stands: b's steps read as they did -/
structure Run4 (w w1 : World) : Prop where
  below : Below w.heap.size w w1
theorem Run4.next {w w1 w2 : World} (h : Run4 w w1) (hb : Below w1.heap.size w1 w2) : Run4 w w2 := ⟨h.below.trans (hb.mono h.below.size)⟩

set_option maxHeartbeats 4000000 in
set_option maxRecDepth 10000 in
theorem law4_in (a : Option Addr) (n c : Nat) (f : Nat → Stp) (a2 : Option Addr) (n2 c2 : Nat) (f2 : Nat → Stp) (w : World) (h : StepsIn w w.heap.size a n f) (h2 : StepsIn w w.heap.size a2 n2 f2)
    (htab : Lib.TabIs Tryd.prog w "internal/strconv.uint64pow10" .u64 Lib.pow10Tab) :
    Calls Tryd.prog 4 #[.slice a n c, .slice a2 n2 c2] w fun e w' => e = .returned (.bool true) ∧ Below w.heap.size w w' := by
  have HH := hide h
  have HH2 := hide h2
  have HT := hide (Lib.tabBelow_of_tabIs htab)
  clear h h2 htab
  go_enter Tryd.func4, Tryd.ntmps4
  go_wp2_with fail
  refine (bytes11_any a n c f a2 n2 c2 f2 w.heap.size w (unhide HH) (unhide HH2)).mono ?_
  rintro e w' ⟨⟨b, rfl⟩, rfl⟩
  cases b
  · go_wp2
    go_ret
    exact ⟨rfl, Below.refl _ _⟩
  go_wp2_with fail
  refine (add6_any 0 a n c f w.heap.size w (unhide HH) (by omega)).mono ?_
  rintro e w' ⟨⟨t, ok, rfl, hok⟩, rfl⟩
  cases ok
  · clear hok
    go_wp2
    go_ret
    exact ⟨rfl, Below.refl _ _⟩
  obtain ⟨ht1, ht2⟩ := hok rfl
  have HT2 := hide ht2
  clear hok ht2
  go_wp2_with fail
  refine (add6_any t a2 n2 c2 f2 w.heap.size w (unhide HH2) ht1).mono ?_
  rintro e w' ⟨⟨t', ok, rfl, hok⟩, rfl⟩
  cases ok
  · clear hok
    go_wp2
    go_ret
    exact ⟨rfl, Below.refl _ _⟩
  obtain ⟨ht3, ht4⟩ := hok rfl
  have hsm1 := small_of (unhide HH) ht1 (unhide HT2)
  have hsm2 := small_of (unhide HH2) ht3 ht4
  have HS1 := hide hsm1.1
  have HS2 := hide hsm2.1
  have hnn : n + n2 ≤ 32768 := by have := unhide HT2; omega
  clear hok ht4 hsm1 hsm2 HT2 ht3 ht1
  go_wp2_with fail
  refine (build7_any (fun _ => 0) f 0 a n c f w.heap.size w (unhide HH) (PathAt.zero _ _ _ _) (Nat.le_refl _)).mono ?_
  rintro e w1 ⟨bk, rfl, hp1, _, hb1⟩
  rw [Nat.zero_add, join_zero] at hp1
  have HP1 := hide hp1
  have R1 : Hid (Run4 w w1) := ⟨hb1⟩
  clear hp1 hb1
  rw [Nat.zero_add]
  go_wp2_with fail
  refine (build7_any bk f n a2 n2 c2 f2 w1.heap.size w1 (((unhide HH2).below (unhide R1).below (Nat.le_refl _)).mono (unhide R1).below.size) (unhide HP1) (Nat.le_refl _)).mono ?_
  rintro e w2 ⟨bkj, rfl, hp2, _, hb2⟩
  have HPJ := hide hp2
  have HPA := hide (((unhide HP1).below hb2 (Nat.le_refl _)).mono hb2.size)
  have R2 := hide ((unhide R1).next hb2)
  clear hp2 hb2 R1 HP1
  go_wp2_with fail
  refine (build7_any (fun _ => 0) f 0 a2 n2 c2 f2 w.heap.size w2 ((unhide HH2).below (unhide R2).below (Nat.le_refl _)) (PathAt.zero _ _ _ _) (unhide R2).below.size).mono ?_
  rintro e w3 ⟨bkb, rfl, hp3, _, hb3⟩
  rw [Nat.zero_add, join_zero] at hp3
  have HPB := hide hp3
  have HPA3 := hide (((unhide HPA).below hb3 (Nat.le_refl _)).mono hb3.size)
  have HPJ3 := hide (((unhide HPJ).below hb3 (Nat.le_refl _)).mono hb3.size)
  have R3 := hide ((unhide R2).next hb3)
  clear hp3 hb3 R2 HPA HPJ
  rw [Nat.zero_add]
  go_wp2_with fail
  refine (string9_bytes bk f n w3.heap.size w3 (unhide HPA3) (Nat.le_refl _) (by omega) (unhide HS1) ((unhide HT) w3 (unhide R3).below)).mono ?_
  rintro e w4 ⟨A, rfl, hA, zA, hb4⟩
  have HA := hide hA
  have HPB4 := hide (((unhide HPB).below hb4 (Nat.le_refl _)).mono hb4.size)
  have HPJ4 := hide (((unhide HPJ3).below hb4 (Nat.le_refl _)).mono hb4.size)
  have R4 := hide ((unhide R3).next hb4)
  clear hA hb4 R3 HPA3 HPB HPJ3
  go_wp2_with fail
  refine (string9_bytes bkb f2 n2 w4.heap.size w4 (unhide HPB4) (Nat.le_refl _) (by omega) (unhide HS2) ((unhide HT) w4 (unhide R4).below)).mono ?_
  rintro e w5 ⟨B, rfl, hB, zB, hb5⟩
  have HB := hide hB
  have HPJ5 := hide (((unhide HPJ4).below hb5 (Nat.le_refl _)).mono hb5.size)
  have R5 := hide ((unhide R4).next hb5)
  clear hB hb5 R4 HPB4 HPJ4
  go_wp2_with fail
  refine (string9_bytes bkj (joinS f n f2) (n + n2) w5.heap.size w5 (unhide HPJ5) (Nat.le_refl _) (by omega) (fun i hi => by
    unfold joinS
    split
    · exact unhide HS1 i (by omega)
    · exact unhide HS2 (i - n) (by omega)) ((unhide HT) w5 (unhide R5).below)).mono ?_
  rintro e w6 ⟨S, rfl, hS, zS, hb6⟩
  rw [textN_from (sp := f) (f := f2) (fun i hi => by simp [joinS, hi]) n2 (fun i hi => by unfold joinS; rw [if_neg (by omega), Nat.add_sub_cancel_left]), ← unhide HA] at hS
  have HS := hide hS
  have R6 := hide ((unhide R5).next hb6)
  clear hS hb6 R5 HPJ5
  rw [textFrom_nil] at HB
  clear HA HS1 HS2
  have hAe : A.toList.isEmpty = decide (A.data.toList = []) := by rw [ByteArray.toList_eq]; cases A.data.toList <;> rfl
  by_cases hA0 : A.data.toList = []
  · have hAt : A.toList.isEmpty = true := by rw [hAe]; simp [hA0]
    have hW : S.toList = B.toList := by rw [ByteArray.toList_eq, ByteArray.toList_eq, unhide HS, unhide HB, hA0]
    clear hAe hA0
    rcases Nat.eq_zero_or_pos n2 with rfl | hpos
    · go_wp2
      go_ret
      exact ⟨rfl, (unhide R6).below⟩
    · obtain ⟨m, rfl⟩ : ∃ m, n2 = m + 1 := ⟨n2 - 1, by omega⟩
      have hst := (unhide HH2).below (unhide R6).below (Nat.le_refl _)
      have hsok := hst.ok m (by omega)
      obtain ⟨bb, off, rfl, hbb, hcell⟩ := hst.row (by omega)
      have hzk := ((unhide R6).below).size
      have hbl : bb < w6.heap.size := by omega
      obtain ⟨c0, c1, c2⟩ := hcell m (by omega)
      clear hst hcell
      go_wp2_with fail
      · have hel : (f2 m).el = true := by assumption
        refine (itoa10_bytes (f2 m).idx hsok.lo hsok.hi _).mono ?_
        rintro e w7 ⟨I, rfl, hI, zI, hb7⟩
        have hsuf : Hid ((⟨#[91]⟩ ++ I ++ ⟨#[93]⟩ : ByteArray).data.toList <:+ S.data.toList) := by
          show _ <:+ _
          rw [unhide HS]
          have := ends_el (acc := A.data.toList) hel
          rw [← hI] at this
          simpa using this
        have hZ := hide (alloc_next ((unhide R6).below) _ hb7)
        clear hI hb7 c0 c1 c2
        go_wp2_with fail
        refine (suffix12_any S _ (by unfold maxLen; omega) (unhide hsuf) w7).mono ?_
        rintro e w' ⟨rfl, rfl⟩
        go_wp2
        go_ret
        exact ⟨rfl, unhide hZ⟩
      · have hel : (f2 m).el = false := by assumption
        refine (suffix12_any S _ (by unfold maxLen; omega) (by rw [unhide HS]; exact ends_name hel) _).mono ?_
        rintro e w' ⟨rfl, rfl⟩
        go_wp2
        go_ret
        exact ⟨rfl, ((unhide R6).below).alloc ((unhide R6).below).size _⟩
  · have hAt : A.toList.isEmpty = false := by rw [hAe]; simp [hA0]
    have HA0 := hide hA0
    have hApos : 0 < A.size := by
      rw [← size_data]
      exact List.length_pos_iff.mpr hA0
    clear hAe hA0
    obtain ⟨i5, hi5, hz0, hz1, hz2⟩ := info_parts Tryd.info5
    go_wp2_with fail
    go_loop [14] (fun i => ∃ k : Nat, k ≤ n2 ∧ i = .int .i64 k ∧ Hid (∀ j, j < k → Blank (f2 j))) (fun i => n2 - (intOf i).toNat)
    case atStart => exact ⟨0, by omega, rfl, hide (fun j hj => by omega)⟩
    case round =>
      obtain ⟨k, hk, rfl, hbk⟩ := hrel
      by_cases hlt : k < n2
      · have hst := (unhide HH2).below (unhide R6).below (Nat.le_refl _)
        have hsok := hst.ok k hlt
        have hnm := hsok.name
        unfold maxLen at hnm
        obtain ⟨bb, off, rfl, hbb, hcell⟩ := hst.row (by omega)
        have hz6 := (unhide R6).below.size
        have hbl : bb < w6.heap.size := by omega
        obtain ⟨c0, c1, c2⟩ := hcell k hlt
        clear hst hcell
        by_cases hel : (f2 k).el = true
        · rw [hel] at c0
          have hlast : Hid (k = n2 ∨ ¬ Blank (f2 k)) := Or.inr (fun e => by rw [e.1] at hel; cases hel)
          go_wp2_with (at_make; refine wpList_make_own _ rfl (.const (.int .i64 0)) (.tmp 83) 34 rfl w6.heap.size 5 i5 (.int .u8 0) 1 Tryd.underlying34 hi5 hz0 hz1 .i64 .i64 _ (A.size + k + 1 + B.size) rfl rfl (by omega) (by rw [hz2]; omega) (by unfold maxLen; omega) (Nat.le_refl _) ?_)
          intro w7 hown7 hg7
          have U7 := hide (BufAt.start hown7 hg7)
          clear hown7 hg7
          clear c0 c1 c2
          go_wp2_with (at_builtin; refine Lib.wpList_append_own_string _ rfl (.tmp 85) (.tmp 86) 34 9 (by rfl) w6.heap.size 5 i5 Tryd.underlying34 Tryd.underlying9 hi5 hz0 hz1 hz2 (.slice (some ⟨w6.heap.size, 0, none⟩) 0 (A.size + k + 1 + B.size)) 0 (cells8 []) (by rfl) (unhide U7).own A (by rfl) (by unfold maxLen; omega) (by omega) (unhide U7).below.size ?_)
          intro v8 w8 hown8 hg8 _
          obtain ⟨g8, cap8, rfl⟩ := ownsRow_pos (by simpa using hown8) hApos
          have U8 := hide ((unhide U7).str0 (by simpa using hown8) hg8)
          clear hown8 hg8 U7
          go_wp2_with fail
          go_loopw [15, 16] (fun v i wr => ∃ (j g cap q : Nat), j ≤ k ∧ i = .int .i64 j ∧ v = .slice (some ⟨g, 0, none⟩) q cap ∧ q ≤ A.size + j ∧ 0 < q ∧ Hid (BufAt w6 wr g cap q (A.data.toList ++ List.replicate j 46))) (fun _ i _ => k - (intOf i).toNat)
          case atStart => exact ⟨0, g8, cap8, A.size, by omega, rfl, rfl, by omega, hApos, by simpa using U8⟩
          case round =>
            obtain ⟨j, g, cap, q, hj, rfl, rfl, hq, hqp, U⟩ := hrel
            clear U8
            by_cases hjk : j < k
            · go_wp2_with (at_builtin; refine wpList_append_lies _ rfl (.tmp 93) (.tmp 94) 34 (by rfl) w6.heap.size 5 i5 (.int .u8 0) 1 1 Tryd.underlying34 hi5 hz0 hz1 hz2 rfl (by omega) (.slice (some ⟨g, 0, none⟩) q cap) q (cells8 (A.data.toList ++ List.replicate j 46)) (by rfl) ((unhide U).own.alloc _) ⟨wr.heap.size, 0, none⟩ 1 1 [.int .u8 46] (by rfl) rfl (cell_one_new _ _ _) (by simp [Value.oneCell']) (by omega) (by unfold maxLen; omega) (by omega) (by have := (unhide U).below.size; simp; omega) (wr.heap.size + 1) (by simp) ?_)
              intro g' cap' w9 hown9 hg9 _ _
              have U9 := hide ((unhide U).dot _ hown9 hg9)
              rw [List.append_assoc, ← List.replicate_succ'] at U9
              clear hown9 hg9 U
              go_wp2
              go_roundw
              case rel =>
                first
                  | exact ⟨j + 1, g', cap', q + 1, by omega, by go_num, rfl, by omega, by omega, U9⟩
                  | ((repeat apply Exists.intro); refine ⟨?_, rfl⟩; exact ⟨j + 1, g', cap', q + 1, by omega, by go_num, rfl, by omega, by omega, U9⟩)
              case measure => simp [intOf]; omega
            · obtain rfl : j = k := by omega
              obtain ⟨wo, rfl⟩ : ∃ wo : World, wo = wr := ⟨_, rfl⟩
              have Z9 := hide ((unhide R6).below.trans ((unhide U).below.mono hz6))
              obtain ⟨_, c0, _, _⟩ := steps_at ((unhide HH2).below (unhide Z9) (Nat.le_refl _)) j hlt
              rw [hel] at c0
              go_wp2_with (at_builtin; refine Lib.wpList_append_own_string _ rfl (.tmp 111) (.tmp 112) 34 9 (by rfl) w6.heap.size 5 i5 Tryd.underlying34 Tryd.underlying9 hi5 hz0 hz1 hz2 (.slice (some ⟨g, 0, none⟩) q cap) q (cells8 (A.data.toList ++ List.replicate j 46)) (by rfl) (unhide U).own B (by rfl) (by unfold maxLen; omega) (by omega) (unhide U).below.size ?_)
              intro v11 w11 hown11 hg11 _
              obtain ⟨g11, cap11, rfl⟩ := ownsRow_pos hown11 (by omega)
              have U11 := hide ((unhide U).str hown11 hg11)
              have hcv := (unhide U11).conv
              obtain ⟨W, hWd⟩ : ∃ W : ByteArray, W = ⟨(A.data.toList ++ List.replicate j 46 ++ B.data.toList).toArray⟩ := ⟨_, rfl⟩
              rw [← hWd] at hcv
              have hW : S.toList = W.toList := by
                rw [ByteArray.toList_eq, ByteArray.toList_eq, unhide HS, joined (unhide HA0) hk (unhide hbk) (unhide hlast), hWd, ← unhide HB]
                simp [dots, hlt, hel]
              have Z11 := hide ((unhide R6).below.trans ((unhide U11).below.mono hz6))
              clear hown11 hg11 hWd U U11 Z9 c0
              obtain ⟨m, rfl⟩ : ∃ m, n2 = m + 1 := ⟨n2 - 1, by omega⟩
              have hst := (unhide HH2).below (unhide Z11) (Nat.le_refl _)
              have hsok := hst.ok m (by omega)
              obtain ⟨hbb', c0, c1, c2⟩ := steps_at hst m (by omega)
              have hzk := ((unhide Z11)).size
              have hbl' : bb < w11.heap.size := by omega
              clear hst
              go_wp2_with fail
              · have hel : (f2 m).el = true := by assumption
                refine (itoa10_bytes (f2 m).idx hsok.lo hsok.hi _).mono ?_
                rintro e w7 ⟨I, rfl, hI, zI, hb7⟩
                have hsuf : Hid ((⟨#[91]⟩ ++ I ++ ⟨#[93]⟩ : ByteArray).data.toList <:+ S.data.toList) := by
                  show _ <:+ _
                  rw [unhide HS]
                  have := ends_el (acc := A.data.toList) hel
                  rw [← hI] at this
                  simpa using this
                have hZ := hide (alloc_next ((unhide Z11)) _ hb7)
                clear hI hb7 c0 c1 c2
                go_wp2_with fail
                refine (suffix12_any S _ (by unfold maxLen; omega) (unhide hsuf) w7).mono ?_
                rintro e w' ⟨rfl, rfl⟩
                go_wp2
                go_ret
                exact ⟨rfl, unhide hZ⟩
              · have hel : (f2 m).el = false := by assumption
                refine (suffix12_any S _ (by unfold maxLen; omega) (by rw [unhide HS]; exact ends_name hel) _).mono ?_
                rintro e w' ⟨rfl, rfl⟩
                go_wp2
                go_ret
                exact ⟨rfl, ((unhide Z11)).alloc ((unhide Z11)).size _⟩
        · have hel' : (f2 k).el = false := by simpa using hel
          rw [hel'] at c0
          have hne : (f2 k).name.toList.isEmpty = decide ((f2 k).name.data.toList = []) := by rw [ByteArray.toList_eq]; cases (f2 k).name.data.toList <;> rfl
          by_cases hn0 : (f2 k).name.data.toList = []
          · have hnt : (f2 k).name.toList.isEmpty = true := by rw [hne]; simp [hn0]
            have hbk' := hide (p := ∀ j, j < k + 1 → Blank (f2 j)) (fun j hj => by
              rcases Nat.lt_or_ge j k with h | h
              · exact unhide hbk j h
              · obtain rfl : j = k := by omega
                exact ⟨hel', hn0⟩)
            clear hne hn0 hel hel'
            go_wp2
            go_round
            case rel => exact ⟨k + 1, by omega, by go_num, hbk'⟩
            case measure => simp [intOf]; omega
          · have hnt : (f2 k).name.toList.isEmpty = false := by rw [hne]; simp [hn0]
            have hlast : Hid (k = n2 ∨ ¬ Blank (f2 k)) := Or.inr (fun e => hn0 e.2)
            clear hne hn0 hel
            go_wp2_with (at_make; refine wpList_make_own _ rfl (.const (.int .i64 0)) (.tmp 83) 34 rfl w6.heap.size 5 i5 (.int .u8 0) 1 Tryd.underlying34 hi5 hz0 hz1 .i64 .i64 _ (A.size + k + 1 + B.size) rfl rfl (by omega) (by rw [hz2]; omega) (by unfold maxLen; omega) (Nat.le_refl _) ?_)
            intro w7 hown7 hg7
            have U7 := hide (BufAt.start hown7 hg7)
            clear hown7 hg7
            clear c0 c1 c2
            go_wp2_with (at_builtin; refine Lib.wpList_append_own_string _ rfl (.tmp 85) (.tmp 86) 34 9 (by rfl) w6.heap.size 5 i5 Tryd.underlying34 Tryd.underlying9 hi5 hz0 hz1 hz2 (.slice (some ⟨w6.heap.size, 0, none⟩) 0 (A.size + k + 1 + B.size)) 0 (cells8 []) (by rfl) (unhide U7).own A (by rfl) (by unfold maxLen; omega) (by omega) (unhide U7).below.size ?_)
            intro v8 w8 hown8 hg8 _
            obtain ⟨g8, cap8, rfl⟩ := ownsRow_pos (by simpa using hown8) hApos
            have U8 := hide ((unhide U7).str0 (by simpa using hown8) hg8)
            clear hown8 hg8 U7
            go_wp2_with fail
            go_loopw [15, 16] (fun v i wr => ∃ (j g cap q : Nat), j ≤ k ∧ i = .int .i64 j ∧ v = .slice (some ⟨g, 0, none⟩) q cap ∧ q ≤ A.size + j ∧ 0 < q ∧ Hid (BufAt w6 wr g cap q (A.data.toList ++ List.replicate j 46))) (fun _ i _ => k - (intOf i).toNat)
            case atStart => exact ⟨0, g8, cap8, A.size, by omega, rfl, rfl, by omega, hApos, by simpa using U8⟩
            case round =>
              obtain ⟨j, g, cap, q, hj, rfl, rfl, hq, hqp, U⟩ := hrel
              clear U8
              by_cases hjk : j < k
              · go_wp2_with (at_builtin; refine wpList_append_lies _ rfl (.tmp 93) (.tmp 94) 34 (by rfl) w6.heap.size 5 i5 (.int .u8 0) 1 1 Tryd.underlying34 hi5 hz0 hz1 hz2 rfl (by omega) (.slice (some ⟨g, 0, none⟩) q cap) q (cells8 (A.data.toList ++ List.replicate j 46)) (by rfl) ((unhide U).own.alloc _) ⟨wr.heap.size, 0, none⟩ 1 1 [.int .u8 46] (by rfl) rfl (cell_one_new _ _ _) (by simp [Value.oneCell']) (by omega) (by unfold maxLen; omega) (by omega) (by have := (unhide U).below.size; simp; omega) (wr.heap.size + 1) (by simp) ?_)
                intro g' cap' w9 hown9 hg9 _ _
                have U9 := hide ((unhide U).dot _ hown9 hg9)
                rw [List.append_assoc, ← List.replicate_succ'] at U9
                clear hown9 hg9 U
                go_wp2
                go_roundw
                case rel =>
                  first
                    | exact ⟨j + 1, g', cap', q + 1, by omega, by go_num, rfl, by omega, by omega, U9⟩
                    | ((repeat apply Exists.intro); refine ⟨?_, rfl⟩; exact ⟨j + 1, g', cap', q + 1, by omega, by go_num, rfl, by omega, by omega, U9⟩)
                case measure => simp [intOf]; omega
              · obtain rfl : j = k := by omega
                obtain ⟨wo, rfl⟩ : ∃ wo : World, wo = wr := ⟨_, rfl⟩
                have Z9 := hide ((unhide R6).below.trans ((unhide U).below.mono hz6))
                obtain ⟨_, c0, _, _⟩ := steps_at ((unhide HH2).below (unhide Z9) (Nat.le_refl _)) j hlt
                rw [hel'] at c0
                have hbw : bb < wo.heap.size := by have := (unhide Z9).size; omega
                go_wp2_with (at_builtin; refine wpList_append_lies _ rfl (.tmp 108) (.tmp 109) 34 (by rfl) w6.heap.size 5 i5 (.int .u8 0) 1 1 Tryd.underlying34 hi5 hz0 hz1 hz2 rfl (by omega) (.slice (some ⟨g, 0, none⟩) q cap) q (cells8 (A.data.toList ++ List.replicate j 46)) (by rfl) ((unhide U).own.alloc _) ⟨wo.heap.size, 0, none⟩ 1 1 [.int .u8 46] (by rfl) rfl (cell_one_new _ _ _) (by simp [Value.oneCell']) (by omega) (by unfold maxLen; omega) (by omega) (by have := (unhide U).below.size; simp; omega) (wo.heap.size + 1) (by simp) ?_)
                intro g10 cap10 w10 hown10 hg10 _ _
                have U10 := hide ((unhide U).dot _ hown10 hg10)
                rw [List.append_assoc] at U10
                clear hown10 hg10 U c0
                go_wp2_with (at_builtin; refine Lib.wpList_append_own_string _ rfl (.tmp 111) (.tmp 112) 34 9 (by rfl) w6.heap.size 5 i5 Tryd.underlying34 Tryd.underlying9 hi5 hz0 hz1 hz2 (.slice (some ⟨g10, 0, none⟩) (q + 1) cap10) (q + 1) (cells8 (A.data.toList ++ (List.replicate j 46 ++ [46]))) (by rfl) (unhide U10).own B (by rfl) (by unfold maxLen; omega) (by omega) (unhide U10).below.size ?_)
                intro v11 w11 hown11 hg11 _
                obtain ⟨g11, cap11, rfl⟩ := ownsRow_pos hown11 (by omega)
                have U11 := hide ((unhide U10).str hown11 hg11)
                have hcv := (unhide U11).conv
                obtain ⟨W, hWd⟩ : ∃ W : ByteArray, W = ⟨(A.data.toList ++ (List.replicate j 46 ++ [46]) ++ B.data.toList).toArray⟩ := ⟨_, rfl⟩
                rw [← hWd] at hcv
                have hW : S.toList = W.toList := by
                  rw [ByteArray.toList_eq, ByteArray.toList_eq, unhide HS, joined (unhide HA0) hk (unhide hbk) (unhide hlast), hWd, ← unhide HB]
                  simp [dots, hlt, hel']
                have Z11 := hide ((unhide R6).below.trans ((unhide U11).below.mono hz6))
                clear hown11 hg11 hWd U10 U11 Z9
                obtain ⟨m, rfl⟩ : ∃ m, n2 = m + 1 := ⟨n2 - 1, by omega⟩
                have hst := (unhide HH2).below (unhide Z11) (Nat.le_refl _)
                have hsok := hst.ok m (by omega)
                obtain ⟨hbb', c0, c1, c2⟩ := steps_at hst m (by omega)
                have hzk := ((unhide Z11)).size
                have hbl' : bb < w11.heap.size := by omega
                clear hst
                go_wp2_with fail
                · have hel : (f2 m).el = true := by assumption
                  refine (itoa10_bytes (f2 m).idx hsok.lo hsok.hi _).mono ?_
                  rintro e w7 ⟨I, rfl, hI, zI, hb7⟩
                  have hsuf : Hid ((⟨#[91]⟩ ++ I ++ ⟨#[93]⟩ : ByteArray).data.toList <:+ S.data.toList) := by
                    show _ <:+ _
                    rw [unhide HS]
                    have := ends_el (acc := A.data.toList) hel
                    rw [← hI] at this
                    simpa using this
                  have hZ := hide (alloc_next ((unhide Z11)) _ hb7)
                  clear hI hb7 c0 c1 c2
                  go_wp2_with fail
                  refine (suffix12_any S _ (by unfold maxLen; omega) (unhide hsuf) w7).mono ?_
                  rintro e w' ⟨rfl, rfl⟩
                  go_wp2
                  go_ret
                  exact ⟨rfl, unhide hZ⟩
                · have hel : (f2 m).el = false := by assumption
                  refine (suffix12_any S _ (by unfold maxLen; omega) (by rw [unhide HS]; exact ends_name hel) _).mono ?_
                  rintro e w' ⟨rfl, rfl⟩
                  go_wp2
                  go_ret
                  exact ⟨rfl, ((unhide Z11)).alloc ((unhide Z11)).size _⟩
      · have hlast : Hid (k = n2 ∨ ¬ Blank (f2 k)) := Or.inl (by omega)
        have hz6 := (unhide R6).below.size
        go_wp2_with (at_make; refine wpList_make_own _ rfl (.const (.int .i64 0)) (.tmp 83) 34 rfl w6.heap.size 5 i5 (.int .u8 0) 1 Tryd.underlying34 hi5 hz0 hz1 .i64 .i64 _ (A.size + k + 1 + B.size) rfl rfl (by omega) (by rw [hz2]; omega) (by unfold maxLen; omega) (Nat.le_refl _) ?_)
        intro w7 hown7 hg7
        have U7 := hide (BufAt.start hown7 hg7)
        clear hown7 hg7
        go_wp2_with (at_builtin; refine Lib.wpList_append_own_string _ rfl (.tmp 85) (.tmp 86) 34 9 (by rfl) w6.heap.size 5 i5 Tryd.underlying34 Tryd.underlying9 hi5 hz0 hz1 hz2 (.slice (some ⟨w6.heap.size, 0, none⟩) 0 (A.size + k + 1 + B.size)) 0 (cells8 []) (by rfl) (unhide U7).own A (by rfl) (by unfold maxLen; omega) (by omega) (unhide U7).below.size ?_)
        intro v8 w8 hown8 hg8 _
        obtain ⟨g8, cap8, rfl⟩ := ownsRow_pos (by simpa using hown8) hApos
        have U8 := hide ((unhide U7).str0 (by simpa using hown8) hg8)
        clear hown8 hg8 U7
        go_wp2_with fail
        go_loopw [15, 16] (fun v i wr => ∃ (j g cap q : Nat), j ≤ k ∧ i = .int .i64 j ∧ v = .slice (some ⟨g, 0, none⟩) q cap ∧ q ≤ A.size + j ∧ 0 < q ∧ Hid (BufAt w6 wr g cap q (A.data.toList ++ List.replicate j 46))) (fun _ i _ => k - (intOf i).toNat)
        case atStart => exact ⟨0, g8, cap8, A.size, by omega, rfl, rfl, by omega, hApos, by simpa using U8⟩
        case round =>
          obtain ⟨j, g, cap, q, hj, rfl, rfl, hq, hqp, U⟩ := hrel
          clear U8
          by_cases hjk : j < k
          · go_wp2_with (at_builtin; refine wpList_append_lies _ rfl (.tmp 93) (.tmp 94) 34 (by rfl) w6.heap.size 5 i5 (.int .u8 0) 1 1 Tryd.underlying34 hi5 hz0 hz1 hz2 rfl (by omega) (.slice (some ⟨g, 0, none⟩) q cap) q (cells8 (A.data.toList ++ List.replicate j 46)) (by rfl) ((unhide U).own.alloc _) ⟨wr.heap.size, 0, none⟩ 1 1 [.int .u8 46] (by rfl) rfl (cell_one_new _ _ _) (by simp [Value.oneCell']) (by omega) (by unfold maxLen; omega) (by omega) (by have := (unhide U).below.size; simp; omega) (wr.heap.size + 1) (by simp) ?_)
            intro g' cap' w9 hown9 hg9 _ _
            have U9 := hide ((unhide U).dot _ hown9 hg9)
            rw [List.append_assoc, ← List.replicate_succ'] at U9
            clear hown9 hg9 U
            go_wp2
            go_roundw
            case rel =>
              first
                | exact ⟨j + 1, g', cap', q + 1, by omega, by go_num, rfl, by omega, by omega, U9⟩
                | ((repeat apply Exists.intro); refine ⟨?_, rfl⟩; exact ⟨j + 1, g', cap', q + 1, by omega, by go_num, rfl, by omega, by omega, U9⟩)
            case measure => simp [intOf]; omega
          · obtain rfl : j = k := by omega
            obtain ⟨wo, rfl⟩ : ∃ wo : World, wo = wr := ⟨_, rfl⟩
            have Z9 := hide ((unhide R6).below.trans ((unhide U).below.mono hz6))
            go_wp2_with (at_builtin; refine Lib.wpList_append_own_string _ rfl (.tmp 111) (.tmp 112) 34 9 (by rfl) w6.heap.size 5 i5 Tryd.underlying34 Tryd.underlying9 hi5 hz0 hz1 hz2 (.slice (some ⟨g, 0, none⟩) q cap) q (cells8 (A.data.toList ++ List.replicate j 46)) (by rfl) (unhide U).own B (by rfl) (by unfold maxLen; omega) (by omega) (unhide U).below.size ?_)
            intro v11 w11 hown11 hg11 _
            obtain ⟨g11, cap11, rfl⟩ := ownsRow_pos hown11 (by omega)
            have U11 := hide ((unhide U).str hown11 hg11)
            have hcv := (unhide U11).conv
            obtain ⟨W, hWd⟩ : ∃ W : ByteArray, W = ⟨(A.data.toList ++ List.replicate j 46 ++ B.data.toList).toArray⟩ := ⟨_, rfl⟩
            rw [← hWd] at hcv
            have hW : S.toList = W.toList := by
              rw [ByteArray.toList_eq, ByteArray.toList_eq, unhide HS, joined (unhide HA0) hk (unhide hbk) (unhide hlast), hWd, ← unhide HB]
              simp [dots, hlt]
            have Z11 := hide ((unhide R6).below.trans ((unhide U11).below.mono hz6))
            clear hown11 hg11 hWd U U11 Z9
            rcases Nat.eq_zero_or_pos n2 with rfl | hpos
            · go_wp2
              go_ret
              exact ⟨rfl, (unhide Z11)⟩
            · obtain ⟨m, rfl⟩ : ∃ m, n2 = m + 1 := ⟨n2 - 1, by omega⟩
              have hst := (unhide HH2).below (unhide Z11) (Nat.le_refl _)
              have hsok := hst.ok m (by omega)
              obtain ⟨bb, off, rfl, hbb, hcell⟩ := hst.row (by omega)
              have hzk := ((unhide Z11)).size
              have hbl : bb < w11.heap.size := by omega
              obtain ⟨c0, c1, c2⟩ := hcell m (by omega)
              clear hst hcell
              go_wp2_with fail
              · have hel : (f2 m).el = true := by assumption
                refine (itoa10_bytes (f2 m).idx hsok.lo hsok.hi _).mono ?_
                rintro e w7 ⟨I, rfl, hI, zI, hb7⟩
                have hsuf : Hid ((⟨#[91]⟩ ++ I ++ ⟨#[93]⟩ : ByteArray).data.toList <:+ S.data.toList) := by
                  show _ <:+ _
                  rw [unhide HS]
                  have := ends_el (acc := A.data.toList) hel
                  rw [← hI] at this
                  simpa using this
                have hZ := hide (alloc_next ((unhide Z11)) _ hb7)
                clear hI hb7 c0 c1 c2
                go_wp2_with fail
                refine (suffix12_any S _ (by unfold maxLen; omega) (unhide hsuf) w7).mono ?_
                rintro e w' ⟨rfl, rfl⟩
                go_wp2
                go_ret
                exact ⟨rfl, unhide hZ⟩
              · have hel : (f2 m).el = false := by assumption
                refine (suffix12_any S _ (by unfold maxLen; omega) (by rw [unhide HS]; exact ends_name hel) _).mono ?_
                rintro e w' ⟨rfl, rfl⟩
                go_wp2
                go_ret
                exact ⟨rfl, ((unhide Z11)).alloc ((unhide Z11)).size _⟩

end Go.Proofs.Qxb6630050aDoor
