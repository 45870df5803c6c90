/-
  SEAT b6630001a: 'Rows.FnRelayCutsAtAnyStageSaid': the row's step over the walk. After the guide's template.
-/
import Derived.Test.Qxb6630001aLaw4
import Derived.Test.Qxb6630001aLaw4Out
import Derived.Test.Qxb6630001aOpen
namespace Go.Proofs.Qxb6630001a.fnRelayCutsAtAnyStage
open Go.ChangeShapes Go.WideShapes Go.ChangeAt Go.RowKit
open Go.ChangeMaps (open_string shut_string)

theorem law4_any (nm : ByteArray) (ra : Option Addr) (rn rc : Nat) (A : Nat → Option Addr) (L C : Nat → Nat) (l : Nat → Nat → ByteArray) (st ks : Int) (ta : Option Addr) (tn tc : Nat) (tl : Nat → ByteArray)
    (sa : Option Addr) (sn sc : Nat) (sf : Nat → Int) (ca : Option Addr) (cn cc : Nat) (cf : Nat → Int) (w : World) (hnm : nm.size ≤ maxLen)
    (hr : RowsIn w w.heap.size ra rn A L C l) (ht : StrsIn w w.heap.size ta tn tl) (hs : IntsIn w w.heap.size sa sn sf) (hc : IntsIn w w.heap.size ca cn cf) :
    Calls Try.prog 4 #[.string nm, .slice ra rn rc, .int .i64 st, .int .i64 ks, .slice ta tn tc, .slice sa sn sc, .slice ca cn cc] w fun e w' => e = .returned (.bool true) ∧ Below w.heap.size w w' := by
  by_cases h : sn = tn ∧ cn = tn ∧ 0 ≤ st ∧ st ≤ rn ∧ 0 ≤ ks ∧ ks ≤ st
  · obtain ⟨rfl, rfl, h1, h2, h3, h4⟩ := h
    obtain ⟨s, rfl⟩ : ∃ s : Nat, st = s := ⟨st.toNat, by omega⟩
    obtain ⟨k, rfl⟩ : ∃ k : Nat, ks = k := ⟨ks.toNat, by omega⟩
    exact law4_in nm ra rn rc A L C l s k ta _ tc tl sa sc sf ca cc cf w hnm hr ht hs hc (by omega) (by omega)
  · exact law4_out nm ra rn rc A L C l st ks ta tn tc tl sa sn sc sf ca cn cc cf w hnm hr ht hs hc h

set_option maxRecDepth 100000 in
theorem lifted (os : Os) (started : os.Started) (H : Type) (enc : TypeId × Value → H) :
    ReturnsInHanded {} Try.checked os 4 .any (Rows.fnRelayCutsAtAnyStageSpec.pre6 enc Try.prog Try.f4 Rows.fnRelayCutsAtAnyStageRow.domain false) (Rows.fnRelayCutsAtAnyStageSpec.post enc Try.prog Try.f4 false true false false) := by
  refine returnsInHanded_of_change (C := Try.checked) own started (by kernel_rfl) Try.func4
    (ChangeSpec.witness6 (enc := enc) (C := Try.checked) false ⟨#[], #[.string ByteArray.empty, .slice none 0 0, .int .i64 0, .int .i64 0, .slice none 0 0, .slice none 0 0, .slice none 0 0], []⟩ 8 (by kernel_rfl) (by kernel_rfl) (by kernel_rfl) (by kernel_rfl)) ?_
  intro W base args ds gs before hval0 hW hcnd _
  have hval : ∀ (j : Nat) t v, Try.f4.params[j]? = some t → args[j]? = some v → Value.okWide Try.prog W .any base t v := hval0
  have hW' := hW
  obtain ⟨p, q, hA0, hV, rfl, hfz, hnd⟩ := hW
  have hA : DataW.TrodAll enc Try.prog W 0 (fun _ => true) true Try.f4.params.toList args.toList ds p := hA0
  rw [Try.params4] at hA hval
  obtain ⟨v0, vs0, d0, ds0, p0, q0, hargs, rfl, rfl, h0, r0⟩ := trodAll_cons hA
  obtain ⟨v1, vs1, d1, ds1, p1, q1, rfl, rfl, rfl, h1, r1⟩ := trodAll_cons r0
  obtain ⟨v2, vs2, d2, ds2, p2, q2, rfl, rfl, rfl, h2, r2⟩ := trodAll_cons r1
  obtain ⟨v3, vs3, d3, ds3, p3, q3, rfl, rfl, rfl, h3, r3⟩ := trodAll_cons r2
  obtain ⟨v4, vs4, d4, ds4, p4, q4, rfl, rfl, rfl, h4, r4⟩ := trodAll_cons r3
  obtain ⟨v5, vs5, d5, ds5, p5, q5, rfl, rfl, rfl, h5, r5⟩ := trodAll_cons r4
  obtain ⟨v6, vs6, d6, ds6, p6, q6, rfl, rfl, rfl, h6, r6⟩ := trodAll_cons r5
  obtain ⟨rfl, rfl, rfl⟩ := trodAll_nil r6
  obtain rfl : args = #[v0, v1, v2, v3, v4, v5, v6] := by cases args; simp_all
  obtain ⟨rfl, rfl⟩ := trodVars_none hV
  have k0 := h0
  have lt0 : ∀ x ∈ p0, x.block < W.heap.size := by obtain ⟨m, hm⟩ := k0; exact DataW.trod_lt m _ _ _ hm
  have k1 := h1
  have lt1 : ∀ x ∈ p1, x.block < W.heap.size := by obtain ⟨m, hm⟩ := k1; exact DataW.trod_lt m _ _ _ hm
  have k2 := h2
  have lt2 : ∀ x ∈ p2, x.block < W.heap.size := by obtain ⟨m, hm⟩ := k2; exact DataW.trod_lt m _ _ _ hm
  have k3 := h3
  have lt3 : ∀ x ∈ p3, x.block < W.heap.size := by obtain ⟨m, hm⟩ := k3; exact DataW.trod_lt m _ _ _ hm
  have k4 := h4
  have lt4 : ∀ x ∈ p4, x.block < W.heap.size := by obtain ⟨m, hm⟩ := k4; exact DataW.trod_lt m _ _ _ hm
  have k5 := h5
  have lt5 : ∀ x ∈ p5, x.block < W.heap.size := by obtain ⟨m, hm⟩ := k5; exact DataW.trod_lt m _ _ _ hm
  have k6 := h6
  have lt6 : ∀ x ∈ p6, x.block < W.heap.size := by obtain ⟨m, hm⟩ := k6; exact DataW.trod_lt m _ _ _ hm
  obtain ⟨a0, rfl, _, _, w0⟩ := open_string Try.underlying9 (hval 0 9 v0 rfl rfl) h0
  obtain ⟨a1, len1, cap1, rfl⟩ := okWide_slice Try.underlying22 (hval 1 22 v1 rfl rfl)
  obtain ⟨A, L, C, l, w1⟩ : ∃ A L C l, RowsIn W W.heap.size a1 len1 A L C l := by
    obtain ⟨fuel, hf⟩ := h1
    obtain ⟨a, n, c, A, L, C, l, e, h⟩ := rows_cell (v := .slice a1 len1 cap1) (by simpa [Value.cells] using hf)
    simp only [Value.slice.injEq] at e
    obtain ⟨rfl, rfl, rfl⟩ := e
    exact ⟨A, L, C, l, h⟩
  obtain ⟨a2, rfl, _, _, w2⟩ := open_int Try.underlying3 (hval 2 3 v2 rfl rfl) h2
  obtain ⟨a3, rfl, _, _, w3⟩ := open_int Try.underlying3 (hval 3 3 v3 rfl rfl) h3
  obtain ⟨a4, len4, cap4, rfl⟩ := okWide_slice Try.underlying23 (hval 4 23 v4 rfl rfl)
  obtain ⟨f4, w4⟩ : ∃ f, StrsIn W W.heap.size a4 len4 f := by
    obtain ⟨fuel, hf⟩ := h4
    obtain ⟨a, n, c, f, e, h⟩ := strs_cell (v := .slice a4 len4 cap4) (by simpa [Value.cells] using hf)
    simp only [Value.slice.injEq] at e
    obtain ⟨rfl, rfl, rfl⟩ := e
    exact ⟨f, h⟩
  obtain ⟨a5, len5, cap5, rfl⟩ := okWide_slice Try.underlying24 (hval 5 24 v5 rfl rfl)
  obtain ⟨f5, w5⟩ : ∃ f, IntsIn W W.heap.size a5 len5 f := by
    obtain ⟨fuel, hf⟩ := h5
    obtain ⟨a, n, c, f, e, h⟩ := ints_cell (v := .slice a5 len5 cap5) (by simpa [Value.cells] using hf)
    simp only [Value.slice.injEq] at e
    obtain ⟨rfl, rfl, rfl⟩ := e
    exact ⟨f, h⟩
  obtain ⟨a6, len6, cap6, rfl⟩ := okWide_slice Try.underlying24 (hval 6 24 v6 rfl rfl)
  obtain ⟨f6, w6⟩ : ∃ f, IntsIn W W.heap.size a6 len6 f := by
    obtain ⟨fuel, hf⟩ := h6
    obtain ⟨a, n, c, f, e, h⟩ := ints_cell (v := .slice a6 len6 cap6) (by simpa [Value.cells] using hf)
    simp only [Value.slice.injEq] at e
    obtain ⟨rfl, rfl, rfl⟩ := e
    exact ⟨f, h⟩
  clear hA0 hval0
  refine (law4_any a0 a1 len1 cap1 A L C l a2 a3 a4 len4 cap4 f4 a5 len5 cap5 f5 a6 len6 cap6 f6 W w0 w1 w4 w5 w6).mono fun e W' ⟨he, bel⟩ => ?_
  subst he
  exact ⟨_, rfl, _, _, _, [], _, [], hW', trodAll_mk1 (shut_bool Try.underlying4 _), (trodAll_cons_mk (Below.trod laidOut (by kernel_rfl) (of_decide_eq_true (by kernel_rfl)) k0 bel lt0) (trodAll_cons_mk (Below.trod laidOut (by kernel_rfl) (of_decide_eq_true (by kernel_rfl)) k1 bel lt1) (trodAll_cons_mk (Below.trod laidOut (by kernel_rfl) (of_decide_eq_true (by kernel_rfl)) k2 bel lt2) (trodAll_cons_mk (Below.trod laidOut (by kernel_rfl) (of_decide_eq_true (by kernel_rfl)) k3 bel lt3) (trodAll_cons_mk (Below.trod laidOut (by kernel_rfl) (of_decide_eq_true (by kernel_rfl)) k4 bel lt4) (trodAll_cons_mk (Below.trod laidOut (by kernel_rfl) (of_decide_eq_true (by kernel_rfl)) k5 bel lt5) (trodAll_cons_mk (Below.trod laidOut (by kernel_rfl) (of_decide_eq_true (by kernel_rfl)) k6 bel lt6) trodAll_mk0))))))), rfl, bel.frame _, fun h => by cases h⟩

theorem over : Rows.fnRelayCutsAtAnyStageRow.holds Try.pinned (OpenSpec.ofChange Rows.fnRelayCutsAtAnyStageSpec) :=
  OpenClaim.holds_of_wide 4 Try.f4 rfl rfl rfl rfl rfl rfl rfl ⟨rfl, rfl, rfl, rfl, rfl⟩ rfl rfl rfl rfl rfl (by kernel_rfl) Try.func4 (by kernel_rfl)
    (of_decide_eq_true (by kernel_rfl)) (by unfold Func.isWrapper; first | (rw [if_pos (by decide +kernel)]; kernel_rfl) | (rw [if_neg (by decide +kernel)]; exact ⟨rfl, rfl⟩))
    (fun os started H enc _ => lifted os started H enc)

/-- THE STATEMENT -/
theorem proved : Rows.FnRelayCutsAtAnyStageSaid := over
end Go.Proofs.Qxb6630001a.fnRelayCutsAtAnyStage
