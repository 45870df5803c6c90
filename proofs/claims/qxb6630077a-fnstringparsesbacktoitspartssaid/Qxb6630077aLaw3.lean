/-
  SEAT b6630077a: the first law's walk.
-/
import Derived.Test.Qxb6630077aParts
namespace Go.Proofs.Qxb6630077a
open Go.RowKit

theorem toList_empty (l : ByteArray) : l.toList.isEmpty = decide (l.data.toList = []) := by
  rw [ByteArray.toList_eq]; cases l.data.toList <;> rfl

theorem addr_data (l d r : ByteArray) : (addr l d r).data.toList =
    (if l.data.toList = [] then [] else l.data.toList ++ [64]) ++ d.data.toList ++ (if r.data.toList = [] then [] else 47 :: r.data.toList) := by
  unfold addr
  rw [toList_empty, toList_empty]
  by_cases h1 : l.data.toList = [] <;> by_cases h2 : r.data.toList = [] <;> simp [h1, h2]

theorem addr_size (l d r : ByteArray) : (addr l d r).size ≤ l.size + d.size + r.size + 2 := by
  rw [← len_data, addr_data, ← len_data l, ← len_data d, ← len_data r]
  split <;> split <;> simp <;> omega

def e0 : ByteArray := ⟨#[]⟩

theorem e0_data : e0.data.toList = [] := rfl

theorem mid_eq (d : ByteArray) : (addr e0 d e0).toList = d.toList := by
  rw [ByteArray.toList_eq, ByteArray.toList_eq, addr_data, e0_data]; simp
theorem full_eq (l d r : ByteArray) : (addr l d r).toList = (addr l e0 e0 ++ d ++ addr e0 e0 r).toList := by
  rw [ByteArray.toList_eq, ByteArray.toList_eq, ByteArray.data_append, Array.toList_append, ByteArray.data_append, Array.toList_append, addr_data, addr_data, addr_data, e0_data]; simp
theorem head_eq (l : ByteArray) : (addr l e0 e0).toList.isEmpty = l.toList.isEmpty := by
  rw [toList_empty, toList_empty, addr_data, e0_data]
  by_cases h : l.data.toList = [] <;> simp [h]
theorem tail_eq (r : ByteArray) : (addr e0 e0 r).toList.isEmpty = r.toList.isEmpty := by
  rw [toList_empty, toList_empty, addr_data, e0_data]
  by_cases h : r.data.toList = [] <;> simp [h]

def Hid (p : Prop) : Prop := p
theorem hide {p : Prop} (h : p) : Hid p := h
theorem unhide {p : Prop} (h : Hid p) : p := h

set_option maxHeartbeats 2000000 in
set_option maxRecDepth 10000 in
theorem law3_in (a0 : ByteArray) (a1 : ByteArray) (a2 : ByteArray) (w0 : a0.size ≤ maxLen) (w1 : a1.size ≤ maxLen) (w2 : a2.size ≤ maxLen) (w : World) :
    Calls Try.prog 3 #[.string a0, .string a1, .string a2] w fun e w' => e = .returned (.bool true) ∧ Grown w w' := by
  have hb := hide (bytes5_any a0 a1 a2 w0 w1 w2 w)
  unfold maxLen at w0 w1 w2
  go_enter Try.func3, Try.ntmps3
  go_wp2_with fail
  refine (unhide hb).mono ?_
  rintro e w' ⟨⟨b, rfl⟩, rfl⟩
  cases b
  · go_wp2
    go_ret
    exact ⟨rfl, Grown.refl _⟩
  go_wp2_with fail
  all_goals (try (go_ret; exact ⟨rfl, Grown.refl _⟩))
  refine (string6_any a0 a1 a2 (by omega) (by omega) (by omega) w).mono ?_
  obtain ⟨F, hF⟩ : ∃ F, F = addr a0 a1 a2 := ⟨_, rfl⟩
  have zF : F.size ≤ 1000000 := by have := addr_size a0 a1 a2; rw [← hF] at this; omega
  rw [← hF]
  have HF := hide hF
  clear hF
  rintro e w' ⟨rfl, rfl⟩
  go_wp2_with fail
  refine (string6_any a0 e0 e0 (by omega) (by decide) (by decide) _).mono ?_
  obtain ⟨H, hH⟩ : ∃ F, F = addr a0 e0 e0 := ⟨_, rfl⟩
  have zH : H.size ≤ 1000000 := by have := addr_size a0 e0 e0; rw [← hH] at this; have : e0.size = 0 := rfl; omega
  rw [← hH]
  have HH := hide hH
  clear hH
  rintro e w' ⟨rfl, rfl⟩
  go_wp2_with fail
  refine (string6_any e0 a1 e0 (by decide) (by omega) (by decide) _).mono ?_
  obtain ⟨M, hM⟩ : ∃ F, F = addr e0 a1 e0 := ⟨_, rfl⟩
  rw [← hM]
  have HM := hide hM
  clear hM
  rintro e w' ⟨rfl, rfl⟩
  go_wp2_with fail
  refine (string6_any e0 e0 a2 (by decide) (by decide) (by omega) _).mono ?_
  obtain ⟨T, hT⟩ : ∃ F, F = addr e0 e0 a2 := ⟨_, rfl⟩
  have zT : T.size ≤ 1000000 := by have := addr_size e0 e0 a2; rw [← hT] at this; have : e0.size = 0 := rfl; omega
  rw [← hT]
  have HT := hide hT
  clear hT
  rintro e w' ⟨rfl, rfl⟩
  go_wp2
  all_goals (obtain rfl := unhide HF; obtain rfl := unhide HH; obtain rfl := unhide HM; obtain rfl := unhide HT)
  · rename_i h
    rw [mid_eq] at h
    simp at h
  · rename_i h
    rw [full_eq] at h
    simp at h
  · have h : (!(addr a0 e0 e0).toList.isEmpty == a0.toList.isEmpty) = true := by assumption
    rw [head_eq] at h
    simp at h
  · go_ret
    refine ⟨?_, ?_⟩
    · show Ending.returned (.bool _) = _
      rw [tail_eq]
      simp
    · repeat (first | exact Grown.refl _ | apply Grown.alloc)

end Go.Proofs.Qxb6630077a
