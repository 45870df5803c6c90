/-
  SEAT b6630050aD: the walk of 'zzItoa' (function 10): strconv.Itoa's own text.
-/
import Derived.Test.Qxb6630050aDoorSmall
import Derived.Lib.ItoaNum
import Derived.Laws.IdiomStrings
import Derived.Laws.BitsAllLaws
namespace Go.Proofs.Qxb6630050aDoor
open Go.RowKit

/-- The buffer: 24 bytes g 0, g 1, .. in block b. -/
def UBlk (w : World) (b : Nat) (g : Nat → Nat) : Prop := w.heap[b]? = some (.cells ((List.range 24).map fun j => Value.int .u8 (g j : Int)).toArray 51 (0, 0))
theorem UBlk.cell {w : World} {b : Nat} {g : Nat → Nat} (h : UBlk w b g) (i : Nat) (hi : i < 24) : w.cell? ⟨b, i, none⟩ = some (.int .u8 (g i : Int)) := by
  unfold UBlk at h
  simp only [World.cell?, h]
  simp [hi]
theorem UBlk.free {w : World} {b : Nat} {g : Nat → Nat} (h : UBlk w b g) (i : Nat) : w.frozen? ⟨b, i, none⟩ = false := by
  unfold UBlk at h
  simp only [World.frozen?, h]
  simp
theorem UBlk.lt {w : World} {b : Nat} {g : Nat → Nat} (h : UBlk w b g) : b < w.heap.size := lt_of_block h
def updN (g : Nat → Nat) (p v : Nat) : Nat → Nat := fun i => if i = p then v else g i
theorem UBlk.set {w : World} {b : Nat} {g : Nat → Nat} (h : UBlk w b g) (p v : Nat) : UBlk (w.setCell ⟨b, p, none⟩ (.int .u8 (v : Int))) b (updN g p v) := by
  have hlt := h.lt
  unfold UBlk at h ⊢
  have h' : w.heap[b] = .cells ((List.range 24).map fun j => Value.int .u8 (g j : Int)).toArray 51 (0, 0) := by
    rw [Array.getElem?_eq_getElem hlt] at h; exact Option.some.inj h
  show (w.heap.modify b _)[b]? = _
  rw [Array.getElem?_eq_getElem (by simpa using hlt), Array.getElem_modify_self, h']
  simp only [Option.isSome_none, Bool.false_eq_true, if_false, Option.some.injEq, Obj.cells.injEq, and_true]
  apply Array.ext
  · simp
  · intro i h1 h2
    simp only [List.setIfInBounds_toArray, List.size_toArray, List.length_set, List.length_map, List.length_range] at h1
    simp only [List.setIfInBounds_toArray, List.getElem_toArray, List.getElem_set, List.getElem_map, List.getElem_range, updN]
    by_cases e : p = i
    · subst e; simp
    · have e' : ¬ i = p := fun x => e x.symm
      simp [e, e']

/-- The bytes from place i on. -/
def tailB (g : Nat → Nat) (i : Nat) : List UInt8 := (List.range (24 - i)).map fun j => UInt8.ofNat (g (i + j))
theorem tailB_end (g : Nat → Nat) : tailB g 24 = [] := rfl
theorem tailB_cons (g : Nat → Nat) (q v : Nat) (hq : q < 24) : tailB (updN g q v) q = UInt8.ofNat v :: tailB g (q + 1) := by
  unfold tailB
  rw [show 24 - q = (24 - (q + 1)) + 1 by omega, List.range_succ_eq_map, List.map_cons, List.map_map]
  congr 1
  · simp [updN]
  · apply List.map_congr_left
    intro j _
    simp only [Function.comp, updN]
    rw [if_neg (by omega), show q + (j + 1) = q + 1 + j by omega]

theorem digits_step (u : Nat) (h : ¬ u / 10 = 0) : Lib.decDigits u = Lib.decDigits (u / 10) ++ [UInt8.ofNat (48 + u % 10)] := by
  rw [Lib.decDigits, dif_neg (by omega)]
theorem digits_last (u : Nat) (h : u / 10 = 0) : Lib.decDigits u = [UInt8.ofNat (48 + u % 10)] := by
  rw [Lib.decDigits, dif_pos (by omega), Nat.mod_eq_of_lt (by omega)]

theorem not_plus_one (u0 : Nat) (h : u0 ≤ 9223372036854775808) (h1 : 0 < u0) : IntKind.u64.wrap (bits BinOp.xor IntKind.u64 IntKind.u64.max (IntKind.u64.wrap (-(u0 : Int))) + 1) = (u0 : Int) := by
  have e1 : IntKind.u64.wrap (-(u0 : Int)) = ((18446744073709551616 - u0 : Nat) : Int) := by
    show (-(u0 : Int)) % 18446744073709551616 = _
    omega
  have e2 : IntKind.u64.max = ((18446744073709551615 : Nat) : Int) := rfl
  have hx : 18446744073709551616 - u0 < 18446744073709551616 := by omega
  have e3 : (18446744073709551615 : Nat) ^^^ (18446744073709551616 - u0) = u0 - 1 := by
    have hb : ((BitVec.allOnes 64) ^^^ (BitVec.ofNat 64 (18446744073709551616 - u0))).toNat = u0 - 1 := by
      rw [BitVec.allOnes_xor, BitVec.toNat_not, BitVec.toNat_ofNat, Nat.mod_eq_of_lt hx]
      omega
    rw [BitVec.toNat_xor, BitVec.toNat_allOnes, BitVec.toNat_ofNat, Nat.mod_eq_of_lt hx] at hb
    exact hb
  rw [e1, e2, u64_xor_nat _ _ (by omega) hx, e3]
  show (((u0 - 1 : Nat) : Int) + 1) % 18446744073709551616 = _
  omega

theorem ublk_new (w : World) : UBlk (w.alloc (.cells #[.int .u8 0, .int .u8 0, .int .u8 0, .int .u8 0, .int .u8 0, .int .u8 0, .int .u8 0, .int .u8 0, .int .u8 0, .int .u8 0, .int .u8 0, .int .u8 0, .int .u8 0, .int .u8 0, .int .u8 0, .int .u8 0, .int .u8 0, .int .u8 0, .int .u8 0, .int .u8 0, .int .u8 0, .int .u8 0, .int .u8 0, .int .u8 0] 51)) w.heap.size (fun _ => 0) := by
  unfold UBlk
  rw [heap_alloc_new]
  rfl

theorem pow_start (u : Nat) (h : u ≤ 9223372036854775808) : u < 10 ^ (23 - 3) := by
  have : (10 : Nat) ^ (23 - 3) = 100000000000000000000 := by decide
  omega
theorem dig_start (u : Nat) : Lib.decDigits u = Lib.decDigits u ++ tailB (fun _ => 0) (23 + 1) := by
  rw [show (23 + 1 : Nat) = 24 from rfl, tailB_end, List.append_nil]

theorem alen51 : Tryd.prog.arrayLen 51 = 24 := by kernel_rfl
theorem elem51 : Tryd.prog.elem 51 = 5 := by kernel_rfl
theorem slice51 (b q : Nat) (hq : q < 24) (W : World) : (Instr.sliceAt 51 (.pointer (some ⟨b, 0, none⟩)) (some (.int .i64 (q : Int))) none none).run Tryd.prog W = .ok (.slice (some ⟨b, q, none⟩) (24 - q) (24 - q)) W := by
  rw [run_sliceAt_array_l W 51 ⟨b, 0, none⟩ (by rw [alen51, elem51]; exact Tryd.underlying51) .i64 q (by omega) (by rw [alen51]; omega), alen51, elem51, Tryd.sizeOf5]
  simp only [Result.andThen_ok, slicedAt, Int.toNat_natCast, Nat.mul_one, Addr.add_lit, Nat.zero_add]
  rw [if_neg (by omega)]

theorem conv_tail {W : World} {b : Nat} {g : Nat → Nat} (h : UBlk W b g) (hg : ∀ j, j < 24 → g j < 256) (q : Nat) : (convert 34 9 (.slice (some ⟨b, q, none⟩) (24 - q) (24 - q))).run Tryd.prog W = .ok (.string ⟨(tailB g q).toArray⟩) W := by
  have hl : (tailB g q).length = 24 - q := by simp [tailB]
  have hc := run_convert_bytes_back (P := Tryd.prog) W 34 9 5 ⟨b, q, none⟩ (24 - q) (tailB g q) Tryd.underlying34 Tryd.underlying5 Tryd.underlying9 (fun j hj => by
    rw [hl] at hj
    rw [Addr.add_lit, h.cell (q + j) (by omega)]
    have e : (tailB g q)[j]'(by rw [hl]; exact hj) = UInt8.ofNat (g (q + j)) := by simp [tailB]
    rw [e]
    have hlt := hg (q + j) (by omega)
    simp [Nat.mod_eq_of_lt hlt])
  rw [hl] at hc
  exact hc

/-- One round: the digit of u is laid. -/
theorem digit_set {wr : World} {b : Nat} {g : Nat → Nat} (h : UBlk wr b g) (q u : Nat) : UBlk (wr.setCell ⟨b, q, none⟩ (.int .u8 (48 + (u : Int) % 10))) b (updN g q (48 + u % 10)) := by
  have := h.set q (48 + u % 10)
  rw [show ((48 + u % 10 : Nat) : Int) = 48 + (u : Int) % 10 from by omega] at this
  exact this
theorem updN_lt {g : Nat → Nat} {q v : Nat} (h : ∀ j, g j < 256) (hv : v < 256) : ∀ j, updN g q v j < 256 := by
  intro j
  unfold updN
  split
  · exact hv
  · exact h j

/-- What the digits are behind the last round. -/
theorem dig_last {u0 u q : Nat} {g : Nat → Nat} (hq : q < 24) (hd : Lib.decDigits u0 = Lib.decDigits u ++ tailB g (q + 1)) (hz : u / 10 = 0) : tailB (updN g q (48 + u % 10)) q = Lib.decDigits u0 := by
  rw [hd, tailB_cons g q _ hq, digits_last u hz]; rfl
theorem dig_round {u0 u q : Nat} {g : Nat → Nat} (hq : q < 24) (hd : Lib.decDigits u0 = Lib.decDigits u ++ tailB g (q + 1)) (hz : ¬ u / 10 = 0) : Lib.decDigits u0 = Lib.decDigits (u / 10) ++ tailB (updN g q (48 + u % 10)) q := by
  rw [hd, tailB_cons g q _ hq, digits_step u hz]; simp
theorem pow_round {u q : Nat} (hp : u < 10 ^ (q - 3)) (hq : 4 ≤ q) (hz : ¬ u / 10 = 0) : 4 ≤ q - 1 ∧ u / 10 < 10 ^ (q - 1 - 3) := by
  rcases Nat.lt_or_ge q 5 with h | h
  · have e : q = 4 := by omega
    subst e
    simp at hp
    omega
  · refine ⟨by omega, ?_⟩
    rw [show q - 3 = (q - 1 - 3) + 1 by omega, Nat.pow_succ] at hp
    exact Nat.div_lt_of_lt_mul (by omega)

/-- What the loop holds. -/
def ItoaRel (w wr : World) (u0 q u : Nat) (g : Nat → Nat) : Prop :=
  UBlk wr w.heap.size g ∧ Below w.heap.size w wr ∧ (∀ j, g j < 256) ∧ u < 10 ^ (q - 3) ∧ Lib.decDigits u0 = Lib.decDigits u ++ tailB g (q + 1)

theorem itoaRel_start (w : World) (u0 : Nat) (h : u0 ≤ 9223372036854775808) : ItoaRel w (w.alloc (.cells #[.int .u8 0, .int .u8 0, .int .u8 0, .int .u8 0, .int .u8 0, .int .u8 0, .int .u8 0, .int .u8 0, .int .u8 0, .int .u8 0, .int .u8 0, .int .u8 0, .int .u8 0, .int .u8 0, .int .u8 0, .int .u8 0, .int .u8 0, .int .u8 0, .int .u8 0, .int .u8 0, .int .u8 0, .int .u8 0, .int .u8 0, .int .u8 0] 51)) u0 23 u0 (fun _ => 0) :=
  ⟨ublk_new w, (Below.refl _ _).alloc (Nat.le_refl _) _, fun _ => by show (0 : Nat) < 256; omega, pow_start u0 h, dig_start u0⟩

theorem itoaRel_round {w wr : World} {u0 q u : Nat} {g : Nat → Nat} (h : ItoaRel w wr u0 q u g) (hq4 : 4 ≤ q) (hq : q < 24) (hz : ¬ u / 10 = 0) :
    4 ≤ q - 1 ∧ ItoaRel w (wr.setCell ⟨w.heap.size, q, none⟩ (.int .u8 (48 + (u : Int) % 10))) u0 (q - 1) (u / 10) (updN g q (48 + u % 10)) := by
  obtain ⟨h1, h2, h3, h4, h5⟩ := h
  have hp := pow_round h4 hq4 hz
  refine ⟨hp.1, digit_set h1 q u, h2.setCell (Nat.le_refl _) _, updN_lt h3 (by omega), hp.2, ?_⟩
  rw [show q - 1 + 1 = q by omega]
  exact dig_round hq h5 hz

set_option maxHeartbeats 1000000 in
theorem itoa10_nonneg (u0 : Nat) (h : u0 ≤ 9223372036854775807) (w : World) :
    Calls Tryd.prog 10 #[.int .i64 u0] w fun e w' => e = .returned (.string ⟨(Lib.decDigits u0).toArray⟩) ∧ Below w.heap.size w w' := by
  have U0 := hide (itoaRel_start w u0 (by omega))
  have hnn : ¬ ((u0 : Int) < 0) := by omega
  go_enter Tryd.func10, Tryd.ntmps10
  go_wp2
  go_loopw [4, 5] (fun i v wr => ∃ (q u : Nat) (g : Nat → Nat), 4 ≤ q ∧ q < 24 ∧ i = .int .i64 ((q : Int) + 1) ∧ v = .int .u64 (u : Int) ∧ u ≤ 9223372036854775808 ∧ Hid (ItoaRel w wr u0 q u g)) (fun i _ _ => (intOf i).toNat)
  case atStart => exact ⟨23, u0, fun _ => 0, by omega, by omega, by go_num, rfl, by omega, U0⟩
  case round =>
    obtain ⟨q, u, g, hq4, hq, rfl, rfl, hub, R⟩ := hrel
    clear U0
    have c1 := R.out.1.cell q hq
    have f1 := R.out.1.free q
    by_cases hz : u / 10 = 0
    · have hs := slice51 w.heap.size q hq
      have hcv := conv_tail (digit_set R.out.1 q u) (fun j _ => updN_lt R.out.2.2.1 (by omega) j) q
      rw [dig_last hq R.out.2.2.2.2 hz] at hcv
      go_wp2
      go_ret
      exact ⟨rfl, R.out.2.1.setCell (Nat.le_refl _) _⟩
    · go_wp2
      go_roundw
      case rel => exact ⟨q - 1, u / 10, updN g q (48 + u % 10), (itoaRel_round R.out hq4 hq hz).1, by omega, by have := (itoaRel_round R.out hq4 hq hz).1; go_num, by go_num, by omega, hide (itoaRel_round R.out hq4 hq hz).2⟩
      case measure => simp [intOf]

set_option maxHeartbeats 1000000 in
theorem itoa10_neg (u0 : Nat) (h : u0 ≤ 9223372036854775808) (h1 : 0 < u0) (w : World) :
    Calls Tryd.prog 10 #[.int .i64 (-(u0 : Int))] w fun e w' => e = .returned (.string ⟨(45 :: Lib.decDigits u0).toArray⟩) ∧ Below w.heap.size w w' := by
  have U0 := hide (itoaRel_start w u0 (by omega))
  have hno := not_plus_one u0 h h1
  have hnn : (-(u0 : Int)) < 0 := by omega
  go_enter Tryd.func10, Tryd.ntmps10
  go_wp2
  clear hno
  go_loopw [4, 5] (fun i v wr => ∃ (q u : Nat) (g : Nat → Nat), 4 ≤ q ∧ q < 24 ∧ i = .int .i64 ((q : Int) + 1) ∧ v = .int .u64 (u : Int) ∧ u ≤ 9223372036854775808 ∧ Hid (ItoaRel w wr u0 q u g)) (fun i _ _ => (intOf i).toNat)
  case atStart => exact ⟨23, u0, fun _ => 0, by omega, by omega, by go_num, rfl, by omega, U0⟩
  case round =>
    obtain ⟨q, u, g, hq4, hq, rfl, rfl, hub, R⟩ := hrel
    clear U0
    have c1 := R.out.1.cell q hq
    have f1 := R.out.1.free q
    by_cases hz : u / 10 = 0
    · obtain ⟨p, rfl⟩ : ∃ p, q = p + 1 := ⟨q - 1, by omega⟩
      have hs := slice51 w.heap.size p (by omega)
      have D1 := digit_set R.out.1 (p + 1) u
      have c2 := D1.cell p (by omega)
      have f2 := D1.free p
      have hcv := conv_tail (D1.set p 45) (fun j _ => updN_lt (updN_lt R.out.2.2.1 (by omega)) (by omega) j) p
      rw [tailB_cons _ p 45 (by omega), dig_last hq R.out.2.2.2.2 hz] at hcv
      rw [show ((45 : Nat) : Int) = 45 from rfl] at hcv
      have HB := hide R.out.2.1
      clear D1
      go_wp2
      go_ret
      exact ⟨rfl, (HB.out.setCell (Nat.le_refl _) _).setCell (Nat.le_refl _) _⟩
    · go_wp2
      go_roundw
      case rel => exact ⟨q - 1, u / 10, updN g q (48 + u % 10), (itoaRel_round R.out hq4 hq hz).1, by omega, by have := (itoaRel_round R.out hq4 hq hz).1; go_num, by go_num, by omega, hide (itoaRel_round R.out hq4 hq hz).2⟩
      case measure => simp [intOf]

/-- 'zzItoa' writes what strconv.Itoa writes, for every int. -/
theorem itoa10_any (n : Int) (h0 : -9223372036854775808 ≤ n) (h1 : n ≤ 9223372036854775807) (w : World) :
    Calls Tryd.prog 10 #[.int .i64 n] w fun e w' => e = .returned (.string ⟨(Lib.itoa n).toArray⟩) ∧ Below w.heap.size w w' := by
  unfold Lib.itoa
  by_cases h : n < 0
  · rw [if_pos h]
    have := itoa10_neg n.natAbs (by omega) (by omega) w
    rw [show -((n.natAbs : Nat) : Int) = n by omega] at this
    exact this
  · rw [if_neg h]
    have := itoa10_nonneg n.toNat (by omega) w
    rw [show ((n.toNat : Nat) : Int) = n by omega] at this
    exact this

end Go.Proofs.Qxb6630050aDoor
