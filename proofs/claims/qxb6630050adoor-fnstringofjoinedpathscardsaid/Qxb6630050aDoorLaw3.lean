/-
  SEAT b6630050aD: the first law's walk.
-/
import Derived.Test.Qxb6630050aDoorSmall
import Derived.Test.Qxb6630050aDoorItoa
import Derived.Test.Qxb6630050aDoorString
namespace Go.Proofs.Qxb6630050aDoor
open Go.RowKit

/-- the boxed step -/
structure BoxAt (w : World) (b : Nat) (s : Stp) : Prop where
  lt : b < w.heap.size
  c0 : w.cell? ⟨b, 0, none⟩ = some (.bool s.el)
  c1 : w.cell? ⟨b, 1, none⟩ = some (.string s.name)
  c2 : w.cell? ⟨b, 2, none⟩ = some (.int .i64 s.idx)
theorem BoxAt.below {w w' : World} {b : Nat} {s : Stp} (h : BoxAt w b s) (hb : Below w.heap.size w w') : BoxAt w' b s :=
  ⟨Nat.lt_of_lt_of_le h.lt hb.size, (hb.cell (p := ⟨b, 0, none⟩) h.lt).trans h.c0, (hb.cell (p := ⟨b, 1, none⟩) h.lt).trans h.c1, (hb.cell (p := ⟨b, 2, none⟩) h.lt).trans h.c2⟩

/-- where the law's walk stands -/
structure Run3 (w w1 : World) (s : Stp) : Prop where
  below : Below w.heap.size w w1
  box : BoxAt w1 w.heap.size s
theorem Run3.next {w w1 w2 : World} {s : Stp} (h : Run3 w w1 s) (hb : Below w1.heap.size w1 w2) : Run3 w w2 s :=
  ⟨h.below.trans (hb.mono h.below.size), h.box.below hb⟩
theorem run3_new (w : World) (s : Stp) : Run3 w (w.alloc (.cells #[.bool s.el, .string s.name, .int .i64 s.idx] 24)) s := by
  have hn := heap_alloc_new w (.cells #[.bool s.el, .string s.name, .int .i64 s.idx] 24)
  exact ⟨(Below.refl _ _).alloc (Nat.le_refl _) _, lt_of_block hn, by simp only [World.cell?, hn]; rfl, by simp only [World.cell?, hn]; rfl, by simp only [World.cell?, hn]; rfl⟩

theorem textN_le {sp : Nat → Stp} {N : Nat} (h : ∀ i, i < N → StpSmall (sp i)) (hN : N ≤ 65536) : (textN sp N).length ≤ 68721049600 := by
  have := textL_le h (List.finRange N)
  rw [textL_all] at this
  simp only [List.length_finRange] at this
  omega

theorem small_of {w : World} {B : Nat} {a : Option Addr} {n : Nat} {f : Nat → Stp} (h : StepsIn w B a n f) {t t0 : Nat} (ht : t ≤ 1048576) (he : t = t0 + 32 * n + sumN (fun i => (f i).name.size) n) : (∀ i, i < n → StpSmall (f i)) ∧ n ≤ 32768 := by
  refine ⟨fun i hi => ?_, by omega⟩
  have h1 := sumN_le (fun i => (f i).name.size) hi
  have h2 := h.ok i hi
  exact ⟨by omega, h2.lo, h2.hi⟩

theorem join_zero (sp f : Nat → Stp) : joinS sp 0 f = f := by
  funext i; simp [joinS]

/-- what the first law compares -/
theorem want_el {P C I : ByteArray} {s : Stp} (hC : C.data.toList = stepText P.data.toList s) (hI : I.data.toList = Lib.itoa s.idx) (he : s.el = true) : C.toList = (P ++ ⟨#[91]⟩ ++ I ++ ⟨#[93]⟩).toList := by
  rw [ByteArray.toList_eq, ByteArray.toList_eq, hC]
  simp [stepText, he, hI]
theorem want_name {P C : ByteArray} {s : Stp} (hC : C.data.toList = stepText P.data.toList s) (he : s.el = false) (hP : P.toList = []) : C.toList = s.name.toList := by
  rw [ByteArray.toList_eq] at hP
  rw [ByteArray.toList_eq, ByteArray.toList_eq, hC]
  simp [stepText, he, hP]
theorem want_dot {P C : ByteArray} {s : Stp} (hC : C.data.toList = stepText P.data.toList s) (he : s.el = false) (hP : ¬ P.toList = []) : C.toList = (P ++ ⟨#[46]⟩ ++ s.name).toList := by
  rw [ByteArray.toList_eq] at hP
  rw [ByteArray.toList_eq, ByteArray.toList_eq, hC]
  have hP' : P.data.toList.isEmpty = false := by cases hq : P.data.toList with
    | nil => exact absurd hq hP
    | cons x y => rfl
  rw [stepText, if_neg (by simp [he]), if_neg (by simp [hP'])]
  simp

theorem string9_bytes (bk : Nat → Nat) (sp : Nat → Stp) (N B : Nat) (w : World) (hp : PathAt w B bk sp N) (hB : B ≤ w.heap.size) (hN : N ≤ 65536) (hok : ∀ i, i < N → StpSmall (sp i))
    (htab : Lib.TabIs Tryd.prog w "internal/strconv.uint64pow10" .u64 Lib.pow10Tab) :
    Calls Tryd.prog 9 #[.pointer (ptrTo bk N)] w fun e w' => ∃ T : ByteArray, e = .returned (.string T) ∧ T.data.toList = textN sp N ∧ T.size ≤ 68721049600 ∧ Below w.heap.size w w' := by
  refine (string9_any bk sp N B w hp hB hN hok htab).mono ?_
  rintro e w' ⟨rfl, hb⟩
  refine ⟨_, rfl, rfl, ?_, hb⟩
  have := textN_le hok hN
  simpa [ByteArray.size] using this
theorem itoa10_bytes (n : Int) (h0 : -9223372036854775808 ≤ n) (h1 : n ≤ 9223372036854775807) (w : World) :
    Calls Tryd.prog 10 #[.int .i64 n] w fun e w' => ∃ T : ByteArray, e = .returned (.string T) ∧ T.data.toList = Lib.itoa n ∧ T.size ≤ 21 ∧ Below w.heap.size w w' := by
  refine (itoa10_any n h0 h1 w).mono ?_
  rintro e w' ⟨rfl, hb⟩
  refine ⟨_, rfl, rfl, ?_, hb⟩
  have := itoa_le n h0 h1
  simpa [ByteArray.size] using this

theorem snoc_text {f : Nat → Stp} {n : Nat} {s : Stp} : textN (snocS f n s) (n + 1) = stepText (textN f n) s := by
  rw [textN, textN_congr n (sp' := f) (fun i hi => by simp [snocS]; omega)]
  simp [snocS]
theorem snoc_small {f : Nat → Stp} {n : Nat} {s : Stp} (h : ∀ i, i < n → StpSmall (f i)) (hs : StpSmall s) : ∀ i, i < n + 1 → StpSmall (snocS f n s i) := by
  intro i hi
  unfold snocS
  split
  · exact hs
  · exact h i (by omega)
theorem snoc_ptr (bk : Nat → Nat) (n b : Nat) : ptrTo (snocB bk n b) (n + 1) = some ⟨b, 0, none⟩ := by
  rw [ptrTo_succ]; simp [snocB]

set_option maxHeartbeats 4000000 in
set_option maxRecDepth 10000 in
theorem law3_in (a : Option Addr) (n c : Nat) (f : Nat → Stp) (s : Stp) (w : World) (h : StepsIn w w.heap.size a n f) (hs : StpOk s)
    (htab : Lib.TabIs Tryd.prog w "internal/strconv.uint64pow10" .u64 Lib.pow10Tab) :
    Calls Tryd.prog 3 #[.slice a n c, .agg #[.bool s.el, .string s.name, .int .i64 s.idx]] w fun e w' => e = .returned (.bool true) ∧ Below w.heap.size w w' := by
  have HH := hide h
  have HT := hide (Lib.tabBelow_of_tabIs htab)
  have hln := hs.name
  unfold maxLen at hln
  have R1 := hide (run3_new w s)
  clear h htab
  go_enter Tryd.func3, Tryd.ntmps3
  go_wp2_with fail
  generalize w.alloc (.cells #[.bool s.el, .string s.name, .int .i64 s.idx] 24) = w1 at *
  refine (bytes5_any a n c f s.el s.name s.idx w.heap.size w1 ((unhide HH).below (unhide R1).below (Nat.le_refl _)) (unhide R1).below.size hs.name).mono ?_
  rintro e w2 ⟨⟨b, rfl⟩, hb2⟩
  have R2 := hide ((unhide R1).next hb2)
  have Z2 := hide (unhide R2).below
  clear R1 hb2
  cases b
  · go_wp2
    go_ret
    exact ⟨rfl, unhide Z2⟩
  go_wp2_with fail
  refine (add6_any 0 a n c f w.heap.size w2 ((unhide HH).below (unhide R2).below (Nat.le_refl _)) (by omega)).mono ?_
  rintro e w' ⟨⟨t, ok, rfl, hok⟩, rfl⟩
  have c1 := (unhide R2).box.c1
  cases ok
  · clear hok
    go_wp2
    go_ret
    exact ⟨rfl, unhide Z2⟩
  obtain ⟨ht1, ht2⟩ := hok rfl
  have HT2 := hide ht2
  clear hok ht2
  go_wp2_with fail
  all_goals (try (go_ret; exact ⟨rfl, unhide Z2⟩))
  clear c1
  refine (build7_any (fun _ => 0) f 0 a n c f w.heap.size w2 ((unhide HH).below (unhide R2).below (Nat.le_refl _)) (PathAt.zero _ _ _ _) (unhide R2).below.size).mono ?_
  rintro e w3 ⟨bk, rfl, hp3, _, hb3⟩
  rw [Nat.zero_add, join_zero] at hp3
  have HP3 := hide hp3
  have R3 := hide ((unhide R2).next hb3)
  have hsm := small_of (unhide HH) ht1 (unhide HT2)
  have HSM := hide hsm.1
  have hn := hsm.2
  have c0 := (unhide R3).box.c0
  have c1 := (unhide R3).box.c1
  have c2 := (unhide R3).box.c2
  clear hp3 hb3 hsm R2 Z2
  rw [Nat.zero_add]
  go_wp2_with fail
  clear c0 c1 c2
  refine (new8_any (ptrTo bk n) s.el s.name s.idx w3).mono ?_
  rintro e w4 ⟨rfl, ⟨d0, d1, d2, d3⟩, hb4, hz4⟩
  have R4 := hide ((unhide R3).next hb4)
  have HP4 := hide (((unhide HP3).below hb4 (Nat.le_refl _)).mono (Nat.le_of_lt hz4))
  have HC4 := hide ((unhide HP3).snoc (s := s) hb4 hz4 (Nat.le_of_lt hz4) d0 d1 d2 d3)
  clear d0 d1 d2 d3 hb4 HP3 R3
  go_wp2_with fail
  refine (string9_bytes bk f n w4.heap.size w4 (unhide HP4) (Nat.le_refl _) (by omega) (unhide HSM) ((unhide HT) w4 (unhide R4).below)).mono ?_
  rintro e w5 ⟨P, rfl, hP, zP, hb5⟩
  have R5 := hide ((unhide R4).next hb5)
  have HC5 := hide (((unhide HC4).below hb5 (Nat.le_refl _)).mono hb5.size)
  have HP := hide hP
  have HP0 : n = 0 → P.toList = [] := fun e => by subst e; rw [ByteArray.toList_eq, hP]; rfl
  have KP0 := hide HP0
  clear hb5 HP4 HC4 hP HP0 R4
  go_wp2_with fail
  have hch := string9_bytes (snocB bk n w3.heap.size) (snocS f n s) (n + 1) w5.heap.size w5 (unhide HC5) (Nat.le_refl _) (by omega) (snoc_small (unhide HSM) ⟨by omega, hs.lo, hs.hi⟩) ((unhide HT) w5 (unhide R5).below)
  rw [snoc_ptr] at hch
  refine hch.mono ?_
  clear hch
  rintro e w6 ⟨C, rfl, hC, zC, hb6⟩
  rw [snoc_text, ← unhide HP] at hC
  have HC := hide hC
  have R6 := hide ((unhide R5).next hb6)
  clear hb6 hC HC5 R5
  have c0 := (unhide R6).box.c0
  have c1 := (unhide R6).box.c1
  have c2 := (unhide R6).box.c2
  have Z6 := hide (unhide R6).below
  obtain ⟨el, hel⟩ : ∃ b, b = s.el := ⟨_, rfl⟩
  rw [← hel] at c0
  have HEL := hide hel
  clear hel
  go_wp2_with fail
  · refine (itoa10_bytes s.idx hs.lo hs.hi w6).mono ?_
    rintro e w7 ⟨I, rfl, hI, zI, hb7⟩
    have Z7 := hide ((unhide R6).next hb7).below
    have hE : C.toList = (P ++ ⟨#[91]⟩ ++ I ++ ⟨#[93]⟩).toList := want_el (unhide HC) hI (by rw [← unhide HEL]; assumption)
    have HE := hide hE
    clear hb7 hI hE
    go_wp2
    all_goals (go_ret; refine ⟨?_, unhide Z7⟩; show Ending.returned (.bool _) = _; have := unhide HE; have := unhide KP0; simp_all)
  all_goals (go_ret; refine ⟨?_, unhide Z6⟩; show Ending.returned (.bool _) = _; have := unhide KP0)
  all_goals (first | (have hE := want_name (unhide HC) (by rw [← unhide HEL]; assumption) (by simpa using (by assumption : P.toList.isEmpty = true)); simp_all; done) | (have hE := want_dot (unhide HC) (by rw [← unhide HEL]; assumption) (by simpa using (by assumption : P.toList.isEmpty = false)); simp_all; done))

end Go.Proofs.Qxb6630050aDoor
