import Derived.Test.Qxb6600667aRows
import Derived.Test.Qxb6600667aPlain
import Derived.WalkKit
import Derived.ProofKit
import Derived.WalkLawsBesides
namespace Go.Proofs.Qxb6600667a.Wk
open Go.RowKit
set_option linter.unusedVariables false

theorem ret_bool {a b : Bool} (h : a = b) : Ending.returned (.bool a) = .returned (.bool b) := by rw [h]
theorem ret_int {k : IntKind} {a b : Int} (h : a = b) : Ending.returned (.int k a) = .returned (.int k b) := by rw [h]

theorem drop_get (s : ByteArray) (k : Nat) (h : k < s.size) : s.data.toList.drop k = s[k] :: s.data.toList.drop (k + 1) := by
  rw [List.drop_eq_getElem_cons (by simpa using h)]; rfl
theorem drop_end (s : ByteArray) (k : Nat) (h : ¬ k < s.size) : s.data.toList.drop k = [] := List.drop_of_length_le (by simp; omega)
theorem eq_of (c d : UInt8) (h : ((c.toNat : Int) == (d.toNat : Int)) = true) : c = d := by
  rw [beq_iff_eq] at h; exact UInt8.toNat_inj.1 (by omega)
theorem ne_of (c d : UInt8) (h : ((c.toNat : Int) == (d.toNat : Int)) = false) : c ≠ d := by
  rw [beq_eq_false_iff_ne] at h; intro e; exact h (by rw [e])

/-! ### isLetter, isDigit -/
def letB (c : UInt8) : Bool := (97 ≤ c && c ≤ 122) || (65 ≤ c && c ≤ 90)
def digB (c : UInt8) : Bool := (48 ≤ c && c ≤ 57)
theorem letB_eq (c : UInt8) : letB c = decide ((97 ≤ (c.toNat : Int) ∧ (c.toNat : Int) ≤ 122) ∨ (65 ≤ (c.toNat : Int) ∧ (c.toNat : Int) ≤ 90)) := by
  unfold letB
  rw [Bool.eq_iff_iff]; simp [UInt8.le_iff_toNat_le]; omega
theorem digB_eq (c : UInt8) : digB c = decide (48 ≤ (c.toNat : Int) ∧ (c.toNat : Int) ≤ 57) := by
  unfold digB
  rw [Bool.eq_iff_iff]; simp [UInt8.le_iff_toNat_le]; omega

theorem atB_eq (c : UInt8) : Pl.atB c = decide ((97 ≤ (c.toNat : Int) ∧ (c.toNat : Int) ≤ 122) ∨ (65 ≤ (c.toNat : Int) ∧ (c.toNat : Int) ≤ 90) ∨ (48 ≤ (c.toNat : Int) ∧ (c.toNat : Int) ≤ 57) ∨ (c.toNat : Int) = 33 ∨ (c.toNat : Int) = 35 ∨ (c.toNat : Int) = 36 ∨ (c.toNat : Int) = 37 ∨ (c.toNat : Int) = 38 ∨ (c.toNat : Int) = 39 ∨ (c.toNat : Int) = 42 ∨ (c.toNat : Int) = 43 ∨ (c.toNat : Int) = 45 ∨ (c.toNat : Int) = 47 ∨ (c.toNat : Int) = 61 ∨ (c.toNat : Int) = 63 ∨ (c.toNat : Int) = 94 ∨ (c.toNat : Int) = 95 ∨ (c.toNat : Int) = 96 ∨ (c.toNat : Int) = 123 ∨ (c.toNat : Int) = 124 ∨ (c.toNat : Int) = 125 ∨ (c.toNat : Int) = 126) :=
  of_decide_eq_true (Pl.allB (fun c => decide (Pl.atB c = decide ((97 ≤ (c.toNat : Int) ∧ (c.toNat : Int) ≤ 122) ∨ (65 ≤ (c.toNat : Int) ∧ (c.toNat : Int) ≤ 90) ∨ (48 ≤ (c.toNat : Int) ∧ (c.toNat : Int) ≤ 57) ∨ (c.toNat : Int) = 33 ∨ (c.toNat : Int) = 35 ∨ (c.toNat : Int) = 36 ∨ (c.toNat : Int) = 37 ∨ (c.toNat : Int) = 38 ∨ (c.toNat : Int) = 39 ∨ (c.toNat : Int) = 42 ∨ (c.toNat : Int) = 43 ∨ (c.toNat : Int) = 45 ∨ (c.toNat : Int) = 47 ∨ (c.toNat : Int) = 61 ∨ (c.toNat : Int) = 63 ∨ (c.toNat : Int) = 94 ∨ (c.toNat : Int) = 95 ∨ (c.toNat : Int) = 96 ∨ (c.toNat : Int) = 123 ∨ (c.toNat : Int) = 124 ∨ (c.toNat : Int) = 125 ∨ (c.toNat : Int) = 126))) (by decide +kernel) c)

set_option maxHeartbeats 400000 in
theorem letter_any (c : UInt8) (w : World) : Calls Try.prog 27 #[.int .u8 c.toNat] w fun e w' => e = .returned (.bool (letB c)) ∧ w' = w := by
  have hc := c.toNat_lt
  go_enter Try.func27, Try.ntmps27
  go_wp2
  all_goals go_ret
  all_goals refine ⟨ret_bool ?_, rfl⟩
  all_goals rw [letB_eq, Bool.eq_iff_iff]; simp only [Bool.or_eq_true, decide_eq_true_eq, Bool.false_eq_true, true_iff, false_iff]; omega
set_option maxHeartbeats 400000 in
theorem digit_any (c : UInt8) (w : World) : Calls Try.prog 28 #[.int .u8 c.toNat] w fun e w' => e = .returned (.bool (digB c)) ∧ w' = w := by
  have hc := c.toNat_lt
  go_enter Try.func28, Try.ntmps28
  go_wp2
  all_goals go_ret
  all_goals refine ⟨ret_bool ?_, rfl⟩
  all_goals rw [digB_eq, Bool.eq_iff_iff]; simp only [decide_eq_true_eq, Bool.false_eq_true, false_iff]; omega

set_option maxHeartbeats 400000 in
theorem errorf_any (f : ByteArray) (o : Option Addr) (n c : Nat) (w : World) :
   Calls Try.prog 21 #[.string f, .slice o n c] w fun e w' => e = .returned (.iface 40 (.pointer (some ⟨w.heap.size, 0, none⟩))) ∧ w' = w.alloc (.cells #[.string f, .slice o n c] 42) := by
  go_enter Try.func21, Try.ntmps21
  go_wp2
  go_ret
  exact ⟨rfl, rfl⟩

set_option maxHeartbeats 2000000 in
theorem atext_model (c : UInt8) (w : World) : Calls Try.prog 19 #[.int .u8 c.toNat] w fun e w' => e = .returned (.bool (Pl.atB c)) ∧ w' = w := by
  have hc := c.toNat_lt
  go_enter Try.func19, Try.ntmps19
  go_wp2
  all_goals go_ret
  all_goals refine ⟨ret_bool ?_, rfl⟩
  all_goals rw [atB_eq]
  all_goals (try simp only [beq_iff_eq, beq_eq_false_iff_ne, ne_eq] at *)
  all_goals first | exact (decide_eq_true (by omega)).symm | exact (decide_eq_false (by omega)).symm
end Go.Proofs.Qxb6600667a.Wk
