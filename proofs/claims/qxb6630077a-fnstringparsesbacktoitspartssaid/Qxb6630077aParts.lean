/-
  SEAT b6630077a: the callees' contracts: zzBytes (5, 7), Address.String (6), xb1HasSep (8), xb1IndexByte (9).
-/
import Derived.Test.Qxb6630077aRows
import Derived.WalkKit
import Derived.ProofKit
import Derived.OpenShut
import Derived.Lib.Strings
namespace Go.Proofs.Qxb6630077a
open Go.RowKit

def SomeBool (e : Ending) : Prop := ∃ b : Bool, e = .returned (.bool b)

/-- the written address -/
def addr (l d r : ByteArray) : ByteArray :=
  let s := if !l.toList.isEmpty then l ++ ⟨#[64]⟩ ++ d else d
  if !r.toList.isEmpty then s ++ (⟨#[47]⟩ ++ r) else s

theorem bytes5_any (a b c : ByteArray) (h1 : a.size ≤ maxLen) (h2 : b.size ≤ maxLen) (h3 : c.size ≤ maxLen) (w : World) :
    Calls Try.prog 5 #[.string a, .string b, .string c] w fun e w' => SomeBool e ∧ w = w' := by
  unfold maxLen at h1 h2 h3
  go_enter Try.func5, Try.ntmps5
  go_wp2
  all_goals (go_ret; exact ⟨⟨_, rfl⟩, rfl⟩)

theorem bytes7_any (a b c : ByteArray) (h1 : a.size ≤ maxLen) (h2 : b.size ≤ maxLen) (h3 : c.size ≤ maxLen) (w : World) :
    Calls Try.prog 7 #[.string a, .string b, .string c] w fun e w' => SomeBool e ∧ w = w' := by
  unfold maxLen at h1 h2 h3
  go_enter Try.func7, Try.ntmps7
  go_wp2
  all_goals (go_ret; exact ⟨⟨_, rfl⟩, rfl⟩)

theorem string6_any (l d r : ByteArray) (h1 : l.size ≤ 262144) (h2 : d.size ≤ 262144) (h3 : r.size ≤ 262144) (w : World) :
    Calls Try.prog 6 #[.agg #[.string l, .string d, .string r]] w fun e w' => e = .returned (.string (addr l d r)) ∧ w' = w.alloc (.cells #[.string l, .string d, .string r] 24) := by
  go_enter Try.func6, Try.ntmps6
  go_wp2
  all_goals go_ret
  all_goals (refine ⟨?_, rfl⟩; rename_i e1 e2; simp only [addr, e1, e2, if_true, Bool.false_eq_true, if_false]; rfl)

/-- no separator among the first k bytes -/
def NoSep (s : ByteArray) (k : Nat) : Prop := ∀ x ∈ s.data.toList.take k, x ≠ 64 ∧ x ≠ 47
/-- no byte 'c' among the first k -/
def NoC (s : ByteArray) (c : UInt8) (k : Nat) : Prop := c ∉ s.data.toList.take k
def SepEnd (s : ByteArray) (e : Ending) : Prop := ∃ b : Bool, e = .returned (.bool b) ∧ (b = false → ∀ x ∈ s.data.toList, x ≠ 64 ∧ x ≠ 47)
def IdxEnd (s : ByteArray) (c : UInt8) (e : Ending) : Prop :=
  (e = .returned (.int .i64 (-1)) ∧ c ∉ s.data.toList) ∨ (∃ (k : Nat) (u v : List UInt8), e = .returned (.int .i64 k) ∧ s.data.toList = u ++ c :: v ∧ u.length = k ∧ c ∉ u)

theorem len_data (s : ByteArray) : s.data.toList.length = s.size := Array.length_toList
theorem at_list (s : ByteArray) (k : Nat) (h : k < s.size) : s[k] = s.data.toList[k]'(by rw [len_data]; exact h) := rfl
theorem take_one (s : ByteArray) (k : Nat) (h : k < s.size) : s.data.toList.take (k + 1) = s.data.toList.take k ++ [s[k]] := by
  rw [at_list, List.take_append_getElem]
theorem ne_of_nat {x : UInt8} {c : UInt8} (h : ¬ ((x.toNat : Int) = (c.toNat : Int))) : x ≠ c := by
  intro e; exact h (by rw [e])
theorem NoSep.step {s : ByteArray} {k : Nat} (h : NoSep s k) (hk : k < s.size) (h1 : ¬ ((s[k].toNat : Int) = 64)) (h2 : ¬ ((s[k].toNat : Int) = 47)) : NoSep s (k + 1) := by
  intro x hx
  rw [take_one s k hk] at hx
  rcases List.mem_append.mp hx with hx | hx
  · exact h x hx
  · obtain rfl := List.mem_singleton.mp hx
    exact ⟨ne_of_nat (c := 64) h1, ne_of_nat (c := 47) h2⟩
theorem NoSep.all {s : ByteArray} {k : Nat} (h : NoSep s k) (hk : ¬ k < s.size) : ∀ x ∈ s.data.toList, x ≠ 64 ∧ x ≠ 47 := by
  intro x hx
  refine h x ?_
  rwa [List.take_of_length_le (by rw [len_data]; omega)]
theorem NoC.step {s : ByteArray} {c : UInt8} {k : Nat} (h : NoC s c k) (hk : k < s.size) (h1 : ¬ ((s[k].toNat : Int) = (c.toNat : Int))) : NoC s c (k + 1) := by
  intro hx
  rw [take_one s k hk] at hx
  rcases List.mem_append.mp hx with hx | hx
  · exact h hx
  · exact ne_of_nat h1 (List.mem_singleton.mp hx).symm
theorem NoC.all {s : ByteArray} {c : UInt8} {k : Nat} (h : NoC s c k) (hk : ¬ k < s.size) : c ∉ s.data.toList := by
  intro hx
  refine h ?_
  rwa [List.take_of_length_le (by rw [len_data]; omega)]
theorem NoC.found {s : ByteArray} {c : UInt8} {k : Nat} (h : NoC s c k) (hk : k < s.size) (h1 : (s[k].toNat : Int) = (c.toNat : Int)) : ∃ u v : List UInt8, s.data.toList = u ++ c :: v ∧ u.length = k ∧ c ∉ u := by
  have e : s[k] = c := UInt8.toNat_inj.mp (by omega)
  refine ⟨s.data.toList.take k, s.data.toList.drop (k + 1), ?_, by rw [List.length_take, len_data]; omega, h⟩
  conv => lhs; rw [← List.take_append_drop k s.data.toList, List.drop_eq_getElem_cons (by rw [len_data]; exact hk)]
  rw [← e, at_list]

theorem sep8_any (s : ByteArray) (h1 : s.size ≤ maxLen) (w : World) :
    Calls Try.prog 8 #[.string s] w fun e w' => SepEnd s e ∧ w = w' := by
  unfold maxLen at h1
  go_enter Try.func8, Try.ntmps8
  go_wp2
  go_loop [3] (fun i => ∃ k : Nat, k ≤ s.size ∧ i = .int .i64 k ∧ NoSep s k) (fun i => s.size - (intOf i).toNat)
  case atStart => exact ⟨0, by omega, rfl, by simp [NoSep]⟩
  case round =>
    obtain ⟨k, hk, rfl, hall⟩ := hrel
    by_cases hlt : k < s.size
    · go_wp2
      all_goals (try (go_ret; exact ⟨⟨true, rfl, by simp⟩, rfl⟩))
      rename_i e1 e2
      have e3 := e2.2
      simp only [beq_eq_false_iff_ne, ne_eq] at e3
      go_round
      case rel => exact ⟨k + 1, by omega, by go_num, hall.step hlt e1 e3⟩
      case measure => simp [intOf]; omega
    · go_wp2
      go_ret
      exact ⟨⟨false, rfl, fun _ => hall.all hlt⟩, rfl⟩

theorem index9_any (s : ByteArray) (c : UInt8) (h1 : s.size ≤ maxLen) (w : World) :
    Calls Try.prog 9 #[.string s, .int .u8 c.toNat] w fun e w' => IdxEnd s c e ∧ w = w' := by
  unfold maxLen at h1
  go_enter Try.func9, Try.ntmps9
  go_wp2
  go_loop [5] (fun i => ∃ k : Nat, k ≤ s.size ∧ i = .int .i64 k ∧ NoC s c k) (fun i => s.size - (intOf i).toNat)
  case atStart => exact ⟨0, by omega, rfl, by simp [NoC]⟩
  case round =>
    obtain ⟨k, hk, rfl, hall⟩ := hrel
    by_cases hlt : k < s.size
    · go_wp2
      · go_ret
        rename_i e1 _
        obtain ⟨u, v, h1, h2, h3⟩ := hall.found hlt (eq_of_beq e1)
        exact ⟨Or.inr ⟨k, u, v, rfl, h1, h2, h3⟩, rfl⟩
      rename_i e1
      go_round
      case rel => exact ⟨k + 1, by omega, by go_num, hall.step hlt (beq_eq_false_iff_ne.mp e1)⟩
      case measure => simp [intOf]; omega
    · go_wp2
      go_ret
      exact ⟨Or.inl ⟨rfl, hall.all hlt⟩, rfl⟩

end Go.Proofs.Qxb6630077a
