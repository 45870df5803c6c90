/-
  SEAT b6630077a: the second law's walk.
-/
import Derived.Test.Qxb6630077aLaw3
namespace Go.Proofs.Qxb6630077a
open Go.RowKit

/-- what stands before the domain -/
def hd (l : List UInt8) : List UInt8 := if l = [] then [] else l ++ [64]
def tl (r : List UInt8) : List UInt8 := if r = [] then [] else 47 :: r
def Plain (l : List UInt8) : Prop := ∀ x ∈ l, x ≠ 64 ∧ x ≠ 47

theorem addr_parts (l d r : ByteArray) : (addr l d r).data.toList = (hd l.data.toList ++ d.data.toList) ++ tl r.data.toList := addr_data l d r

theorem split_one {c : UInt8} : ∀ {u u' v v' : List UInt8}, u ++ c :: v = u' ++ c :: v' → c ∉ u → c ∉ u' → u = u' ∧ v = v'
  | [], [], v, v', h, _, _ => ⟨rfl, by simpa using h⟩
  | [], b :: u', v, v', h, _, h2 => by
    simp only [List.nil_append, List.cons_append, List.cons.injEq] at h
    exact absurd (by rw [h.1]; exact List.mem_cons_self) h2
  | a :: u, [], v, v', h, h1, _ => by
    simp only [List.nil_append, List.cons_append, List.cons.injEq] at h
    exact absurd (by rw [← h.1]; exact List.mem_cons_self) h1
  | a :: u, b :: u', v, v', h, h1, h2 => by
    simp only [List.cons_append, List.cons.injEq] at h
    obtain ⟨e1, e2⟩ := split_one h.2 (fun m => h1 (List.mem_cons_of_mem _ m)) (fun m => h2 (List.mem_cons_of_mem _ m))
    exact ⟨by rw [h.1, e1], e2⟩

theorem no47 {l d : List UInt8} (hl : Plain l) (hd' : Plain d) : (47 : UInt8) ∉ hd l ++ d := by
  intro h
  rcases List.mem_append.mp h with h | h
  · unfold hd at h
    split at h
    · exact absurd h (by simp)
    · rcases List.mem_append.mp h with h | h
      · exact (hl _ h).2 rfl
      · exact absurd (List.mem_singleton.mp h) (by decide)
  · exact (hd' _ h).2 rfl

theorem slash_none {l d r : List UInt8} (h : (47 : UInt8) ∉ (hd l ++ d) ++ tl r) : r = [] ∧ (hd l ++ d) ++ tl r = hd l ++ d := by
  by_cases hr : r = []
  · subst hr; exact ⟨rfl, by simp [tl]⟩
  · exact absurd (List.mem_append_right _ (by unfold tl; rw [if_neg hr]; exact List.mem_cons_self)) h
theorem slash_some {l d r u v : List UInt8} (hl : Plain l) (hd' : Plain d) (h : (hd l ++ d) ++ tl r = u ++ 47 :: v) (hu : (47 : UInt8) ∉ u) : u = hd l ++ d ∧ v = r := by
  by_cases hr : r = []
  · subst hr
    have : (47 : UInt8) ∈ hd l ++ d := by
      have h2 : (hd l ++ d) ++ tl [] = hd l ++ d := by simp [tl]
      rw [← h2, h]
      exact List.mem_append_right _ List.mem_cons_self
    exact absurd this (no47 hl hd')
  · unfold tl at h
    rw [if_neg hr] at h
    obtain ⟨e1, e2⟩ := split_one h (no47 hl hd') hu
    exact ⟨e1.symm, e2.symm⟩
theorem at_none {l d : List UInt8} (h : (64 : UInt8) ∉ hd l ++ d) : l = [] ∧ hd l ++ d = d := by
  by_cases hr : l = []
  · subst hr; exact ⟨rfl, by simp [hd]⟩
  · exact absurd (List.mem_append_left _ (by unfold hd; rw [if_neg hr]; exact List.mem_append_right _ (List.mem_singleton.mpr rfl))) h
theorem at_some {l d u v : List UInt8} (hl : Plain l) (hd' : Plain d) (h : hd l ++ d = u ++ 64 :: v) (hu : (64 : UInt8) ∉ u) : u = l ∧ v = d := by
  by_cases hr : l = []
  · subst hr
    have : (64 : UInt8) ∈ d := by
      have h2 : hd [] ++ d = d := by simp [hd]
      rw [← h2, h]
      exact List.mem_append_right _ List.mem_cons_self
    exact absurd rfl (hd' _ this).1
  · unfold hd at h
    rw [if_neg hr, List.append_assoc] at h
    obtain ⟨e1, e2⟩ := split_one (by exact h) (fun m => (hl _ m).1 rfl) hu
    exact ⟨e1.symm, e2.symm⟩

theorem ext_head {s : ByteArray} {u v : List UInt8} {c : UInt8} (h : s.data.toList = u ++ c :: v) : (s.extract 0 u.length).data.toList = u := by
  rw [Go.Lib.extract_data, h]; simp
theorem ext_tail {s : ByteArray} {u v : List UInt8} {c : UInt8} (h : s.data.toList = u ++ c :: v) : (s.extract (u.length + 1) s.size).data.toList = v := by
  rw [Go.Lib.extract_data, ← len_data, h]
  rw [show u ++ c :: v = (u ++ [c]) ++ v by simp, List.drop_left' (by simp)]
  exact List.take_of_length_le (by simp; omega)
theorem eq_bytes {a b : ByteArray} (h : a.data.toList = b.data.toList) : (a.toList == b.toList) = true := by
  rw [ByteArray.toList_eq, ByteArray.toList_eq, h]; simp
theorem split_lt {s : ByteArray} {u v : List UInt8} {c : UInt8} (h : s.data.toList = u ++ c :: v) : u.length < s.size := by
  rw [← len_data, h]; simp

set_option maxHeartbeats 2000000 in
set_option maxRecDepth 10000 in
theorem law4_in (a0 : ByteArray) (a1 : ByteArray) (a2 : ByteArray) (w0 : a0.size ≤ maxLen) (w1 : a1.size ≤ maxLen) (w2 : a2.size ≤ maxLen) (w : World) :
    Calls Try.prog 4 #[.string a0, .string a1, .string a2] w fun e w' => e = .returned (.bool true) ∧ Grown w w' := by
  have hb := hide (bytes7_any a0 a1 a2 w0 w1 w2 w)
  have hs0 := hide (sep8_any a0 w0 w)
  have hs1 := hide (sep8_any a1 w1 w)
  unfold maxLen at w0 w1 w2
  go_enter Try.func4, Try.ntmps4
  go_wp2_with fail
  refine (unhide hb).mono ?_
  rintro e w' ⟨⟨b, rfl⟩, rfl⟩
  cases b
  · go_wp2
    go_ret
    exact ⟨rfl, Grown.refl _⟩
  go_wp2_with fail
  all_goals (try (go_ret; exact ⟨rfl, Grown.refl _⟩))
  refine (unhide hs0).mono ?_
  rintro e w' ⟨⟨b, rfl, p0⟩, rfl⟩
  have P0 := hide p0
  clear p0
  cases b
  case true =>
    go_wp2
    go_ret
    exact ⟨rfl, Grown.refl _⟩
  go_wp2_with fail
  refine (unhide hs1).mono ?_
  rintro e w' ⟨⟨b, rfl, p1⟩, rfl⟩
  have P1 := hide p1
  clear p1
  cases b
  case true =>
    go_wp2
    go_ret
    exact ⟨rfl, Grown.refl _⟩
  have Q0' := unhide P0
  have Q1' := unhide P1
  have Q0 : Hid (Plain a0.data.toList) := Q0' (by trivial)
  have Q1 : Hid (Plain a1.data.toList) := Q1' (by trivial)
  clear P0 P1 Q0' Q1'
  go_wp2_with fail
  refine (string6_any a0 a1 a2 (by omega) (by omega) (by omega) w).mono ?_
  obtain ⟨F, hF⟩ : ∃ F, F = addr a0 a1 a2 := ⟨_, rfl⟩
  have zF : F.size ≤ 1000000 := by have := addr_size a0 a1 a2; rw [← hF] at this; omega
  rw [← hF]
  have HF : Hid (F.data.toList = (hd a0.data.toList ++ a1.data.toList) ++ tl a2.data.toList) := by rw [hF]; exact addr_parts a0 a1 a2
  clear hF
  rintro e w' ⟨rfl, rfl⟩
  go_wp2_with fail
  have hi := hide (index9_any F 47 (by unfold maxLen; omega) (w.alloc (.cells #[.string a0, .string a1, .string a2] 24)))
  refine (unhide hi).mono ?_
  clear hi
  rintro e w' ⟨hend, rfl⟩
  rcases hend with ⟨rfl, hno⟩ | ⟨k, u, v, rfl, hu, rfl, hnu⟩
  · rw [unhide HF] at hno
    obtain ⟨r0, hb0⟩ := slash_none hno
    have HB : Hid (F.data.toList = hd a0.data.toList ++ a1.data.toList) := by rw [unhide HF]; exact hb0
    have HR : Hid (e0.data.toList = a2.data.toList) := by rw [r0]; rfl
    clear r0 hb0 hno
    go_wp2_with fail
    have hi := hide (index9_any F 64 (by unfold maxLen; omega) (w.alloc (.cells #[.string a0, .string a1, .string a2] 24)))
    refine (unhide hi).mono ?_
    clear hi
    rintro e w' ⟨hend, rfl⟩
    rcases hend with ⟨rfl, hno⟩ | ⟨k, p, q, rfl, hu, rfl, hnu⟩
    · rw [unhide HB] at hno
      obtain ⟨l0, hb0⟩ := at_none hno
      have E1 : a0.toList = [] := by rw [ByteArray.toList_eq, l0]
      have E2 : F.toList = a1.toList := by rw [ByteArray.toList_eq, ByteArray.toList_eq, unhide HB]; exact hb0
      have E3 : a2.toList = [] := by rw [ByteArray.toList_eq, ← unhide HR]; rfl
      clear l0 hb0 hno
      go_wp2
      all_goals (go_ret; exact ⟨rfl, Grown.alloc (Grown.refl _) _ _⟩)
    · have hz := split_lt hu
      have x1 := ext_head hu
      have x2 := ext_tail hu
      rw [unhide HB] at hu
      obtain ⟨l0, hb0⟩ := at_some (unhide Q0) (unhide Q1) hu hnu
      have E1 : (F.extract 0 p.length).toList = a0.toList := by rw [ByteArray.toList_eq, ByteArray.toList_eq, x1]; exact l0
      have E2 : (F.extract (p.length + 1) F.size).toList = a1.toList := by rw [ByteArray.toList_eq, ByteArray.toList_eq, x2]; exact hb0
      have E3 : a2.toList = [] := by rw [ByteArray.toList_eq, ← unhide HR]; rfl
      clear l0 hb0 hu hnu x1 x2
      go_wp2
      all_goals (go_ret; exact ⟨rfl, Grown.alloc (Grown.refl _) _ _⟩)
  · have hz := split_lt hu
    have x1 := ext_head hu
    have x2 := ext_tail hu
    rw [unhide HF] at hu
    obtain ⟨r0, hb0⟩ := slash_some (unhide Q0) (unhide Q1) hu hnu
    have HB : Hid ((F.extract 0 u.length).data.toList = hd a0.data.toList ++ a1.data.toList) := by rw [x1]; exact r0
    have HR : Hid ((F.extract (u.length + 1) F.size).data.toList = a2.data.toList) := by rw [x2]; exact hb0
    have zB : (F.extract 0 u.length).size ≤ 1000000 := by rw [← len_data, x1]; omega
    clear r0 hb0 hu hnu x1 x2
    go_wp2_with fail
    generalize F.extract 0 u.length = B at *
    generalize F.extract (u.length + 1) F.size = R at *
    have hi := hide (index9_any B 64 (by unfold maxLen; omega) (w.alloc (.cells #[.string a0, .string a1, .string a2] 24)))
    refine (unhide hi).mono ?_
    clear hi
    rintro e w' ⟨hend, rfl⟩
    rcases hend with ⟨rfl, hno⟩ | ⟨k, p, q, rfl, hu, rfl, hnu⟩
    · rw [unhide HB] at hno
      obtain ⟨l0, hb0⟩ := at_none hno
      have E1 : a0.toList = [] := by rw [ByteArray.toList_eq, l0]
      have E2 : B.toList = a1.toList := by rw [ByteArray.toList_eq, ByteArray.toList_eq, unhide HB]; exact hb0
      have E3 : R.toList = a2.toList := by rw [ByteArray.toList_eq, ByteArray.toList_eq, unhide HR]
      clear l0 hb0 hno
      go_wp2
      all_goals (go_ret; exact ⟨rfl, Grown.alloc (Grown.refl _) _ _⟩)
    · have hz := split_lt hu
      have x1 := ext_head hu
      have x2 := ext_tail hu
      rw [unhide HB] at hu
      obtain ⟨l0, hb0⟩ := at_some (unhide Q0) (unhide Q1) hu hnu
      have E1 : (B.extract 0 p.length).toList = a0.toList := by rw [ByteArray.toList_eq, ByteArray.toList_eq, x1]; exact l0
      have E2 : (B.extract (p.length + 1) B.size).toList = a1.toList := by rw [ByteArray.toList_eq, ByteArray.toList_eq, x2]; exact hb0
      have E3 : R.toList = a2.toList := by rw [ByteArray.toList_eq, ByteArray.toList_eq, unhide HR]
      clear l0 hb0 hu hnu x1 x2
      go_wp2
      all_goals (go_ret; exact ⟨rfl, Grown.alloc (Grown.refl _) _ _⟩)

end Go.Proofs.Qxb6630077a
