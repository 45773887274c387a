import Derived.Test.Qxb6000862aRows
import Derived.WalkKit
import Derived.ProofKit
import Derived.WalkLawsBesides
namespace Go.Proofs.Qxb6000862a.Wk
open Go.RowKit
set_option linter.unusedVariables false

theorem ret_bool {a b : Bool} (h : a = b) : Ending.returned (.bool a) = .returned (.bool b) := by rw [h]

theorem take_snoc (s : ByteArray) (k : Nat) (h : k < s.size) : s.data.toList.take (k + 1) = s.data.toList.take k ++ [s[k]] := by
  rw [List.take_succ_eq_append_getElem (by simpa using h)]; rfl
theorem get_mem (s : ByteArray) (k : Nat) (h : k < s.size) : s[k] ∈ s.data.toList := by
  have : s[k] = s.data.toList[k]'(by simpa using h) := rfl
  rw [this]; exact List.getElem_mem _
/-- Does the byte stand in the text? -/
def hasB (c : UInt8) (l : List UInt8) : Bool := decide (c ∈ l)
theorem has_yes (s : ByteArray) (k : Nat) (h : k < s.size) (c : UInt8) (ci : Int) (hc : Hid (ci = c.toNat)) (ht : ((s[k].toNat : Int) == ci) = true) : true = hasB c s.data.toList := by
  rw [beq_iff_eq, hc.out] at ht
  have : s[k] = c := UInt8.toNat_inj.1 (by omega)
  rw [← this]
  exact (decide_eq_true (get_mem s k h)).symm
theorem has_no (s : ByteArray) (k : Nat) (h : k < s.size) (c : UInt8) (ci : Int) (hc : Hid (ci = c.toNat)) (ht : ((s[k].toNat : Int) == ci) = false) (hn : Hid (c ∉ s.data.toList.take k)) : Hid (c ∉ s.data.toList.take (k + 1)) := by
  show c ∉ s.data.toList.take (k + 1)
  rw [beq_eq_false_iff_ne, hc.out] at ht
  rw [take_snoc s k h, List.mem_append, List.mem_singleton, not_or]
  exact ⟨hn.out, fun e => ht (by rw [e])⟩
theorem has_end (s : ByteArray) (k : Nat) (h : ¬ k < s.size) (c : UInt8) (hn : Hid (c ∉ s.data.toList.take k)) : false = hasB c s.data.toList := by
  have h1 := hn.out
  rw [List.take_of_length_le (by simp; omega)] at h1
  exact (decide_eq_false h1).symm

set_option maxHeartbeats 400000 in
/-- zzHasByte. -/
theorem has_any (s : ByteArray) (c : UInt8) (ci : Int) (hc : Hid (ci = c.toNat)) (w : World) (hs : s.size ≤ maxLen) :
    Calls Try.prog 19 #[.string s, .int .u8 ci] w fun e w' => e = .returned (.bool (hasB c s.data.toList)) ∧ w' = w := by
  unfold maxLen at hs
  go_enter Try.func19, Try.ntmps19
  go_wp2
  go_loop [5] (fun i => ∃ k : Nat, k ≤ s.size ∧ i = .int .i64 k ∧ Hid (c ∉ s.data.toList.take k)) (fun i => s.size - (intOf i).toNat)
  case atStart => exact ⟨0, Nat.zero_le _, rfl, (List.not_mem_nil : c ∉ [])⟩
  case round =>
    obtain ⟨k, hk, rfl, hno⟩ := hrel
    by_cases hlt : k < s.size
    · go_wp2
      · go_ret
        exact ⟨ret_bool (has_yes s k hlt c ci hc ‹_›), rfl⟩
      · go_round
        case rel => exact ⟨k + 1, by omega, by go_num, has_no s k hlt c ci hc ‹_› hno⟩
        case measure => simp [intOf]; omega
    · go_wp2
      go_ret
      exact ⟨ret_bool (has_end s k hlt c hno), rfl⟩

set_option maxHeartbeats 400000 in
theorem bytes18 (a b c : ByteArray) (w : World) (ha : a.size ≤ maxLen) (hb : b.size ≤ maxLen) (hc : c.size ≤ maxLen) :
    Calls Try.prog 18 #[.string a, .string b, .string c] w fun e w' => e = .returned (.bool (decide (a.size + b.size + c.size ≤ 1048576))) ∧ w' = w := by
  unfold maxLen at ha hb hc
  go_enter Try.func18, Try.ntmps18
  go_wp2
  all_goals go_ret
  all_goals exact ⟨ret_bool (by first | exact (decide_eq_false (by omega)).symm | exact (decide_eq_true (by omega)).symm), rfl⟩

set_option maxHeartbeats 400000 in
theorem bytes23 (a b c d : ByteArray) (w : World) (ha : a.size ≤ maxLen) (hb : b.size ≤ maxLen) (hc : c.size ≤ maxLen) (hd : d.size ≤ maxLen) :
    Calls Try.prog 23 #[.string a, .string b, .string c, .string d] w fun e w' => e = .returned (.bool (decide (a.size + b.size + c.size + d.size ≤ 1048576))) ∧ w' = w := by
  unfold maxLen at ha hb hc hd
  go_enter Try.func23, Try.ntmps23
  go_wp2
  all_goals go_ret
  all_goals exact ⟨ret_bool (by first | exact (decide_eq_false (by omega)).symm | exact (decide_eq_true (by omega)).symm), rfl⟩
end Go.Proofs.Qxb6000862a.Wk
