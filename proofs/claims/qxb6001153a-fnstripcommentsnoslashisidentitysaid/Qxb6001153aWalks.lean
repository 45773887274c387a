import Derived.Test.Qxb6001153aRows
import Derived.Test.Qxb6001153aPlain
import Derived.WalkKit
import Derived.ProofKit
import Derived.WalkLawsBesides
namespace Go.Proofs.Qxb6001153a.Wk
open Go.RowKit
set_option linter.unusedVariables false

theorem ret_bool {a b : Bool} (h : a = b) : Ending.returned (.bool a) = .returned (.bool b) := by rw [h]
theorem ret_ib {k : IntKind} {a b : Int} {c d : Bool} (h : a = b) (h' : c = d) : Ending.returned (.tuple #[.int k a, .bool c]) = .returned (.tuple #[.int k b, .bool d]) := by rw [h, h']

theorem take_snoc (s : ByteArray) (k : Nat) (h : k < s.size) : s.data.toList.take (k + 1) = s.data.toList.take k ++ [s[k]] := by
  rw [List.take_succ_eq_append_getElem (by simpa using h)]; rfl
theorem get_mem (s : ByteArray) (k : Nat) (h : k < s.size) : s[k] ∈ s.data.toList := by
  have : s[k] = s.data.toList[k]'(by simpa using h) := rfl
  rw [this]; exact List.getElem_mem _
theorem drop_get (s : ByteArray) (k : Nat) (h : k < s.size) : s.data.toList.drop k = s[k] :: s.data.toList.drop (k + 1) := by
  rw [List.drop_eq_getElem_cons (by simpa using h)]; rfl
theorem eq_of (c d : UInt8) (h : ((c.toNat : Int) == (d.toNat : Int)) = true) : c = d := by
  rw [beq_iff_eq] at h; exact UInt8.toNat_inj.1 (by omega)
theorem ne_of (c d : UInt8) (h : ((c.toNat : Int) == (d.toNat : Int)) = false) : c ≠ d := by
  rw [beq_eq_false_iff_ne] at h; intro e; exact h (by rw [e])

/-- Does the byte stand in the text? -/
def hasB (c : UInt8) (l : List UInt8) : Bool := decide (c ∈ l)
theorem has_yes (s : ByteArray) (k : Nat) (h : k < s.size) (c : UInt8) (ci : Int) (hc : Hid (ci = c.toNat)) (ht : ((s[k].toNat : Int) == ci) = true) : true = hasB c s.data.toList := by
  rw [hc.out] at ht
  rw [← eq_of _ _ ht]
  exact (decide_eq_true (get_mem s k h)).symm
theorem has_no (s : ByteArray) (k : Nat) (h : k < s.size) (c : UInt8) (ci : Int) (hc : Hid (ci = c.toNat)) (ht : ((s[k].toNat : Int) == ci) = false) (hn : Hid (c ∉ s.data.toList.take k)) : Hid (c ∉ s.data.toList.take (k + 1)) := by
  show c ∉ s.data.toList.take (k + 1)
  rw [hc.out] at ht
  have ht := ne_of _ _ ht
  rw [take_snoc s k h, List.mem_append, List.mem_singleton, not_or]
  exact ⟨hn.out, fun e => ht e.symm⟩
theorem has_end (s : ByteArray) (k : Nat) (h : ¬ k < s.size) (c : UInt8) (hn : Hid (c ∉ s.data.toList.take k)) : false = hasB c s.data.toList := by
  have h1 := hn.out
  rw [List.take_of_length_le (by simp; omega)] at h1
  exact (decide_eq_false h1).symm

set_option maxHeartbeats 400000 in
/-- zzHasByteEsvB1. -/
theorem has_any (s : ByteArray) (c : UInt8) (ci : Int) (hc : Hid (ci = c.toNat)) (w : World) (hs : s.size ≤ maxLen) :
    Calls Try.prog 18 #[.string s, .int .u8 ci] w fun e w' => e = .returned (.bool (hasB c s.data.toList)) ∧ w' = w := by
  unfold maxLen at hs
  go_enter Try.func18, Try.ntmps18
  go_wp2
  go_loop [5] (fun i => ∃ k : Nat, k ≤ s.size ∧ i = .int .i64 k ∧ Hid (c ∉ s.data.toList.take k)) (fun i => s.size - (intOf i).toNat)
  case atStart => exact ⟨0, Nat.zero_le _, rfl, (List.not_mem_nil : c ∉ [])⟩
  case round =>
    obtain ⟨k, hk, rfl, hno⟩ := hrel
    by_cases hlt : k < s.size
    · go_wp2
      · go_ret
        exact ⟨ret_bool (has_yes s k hlt c ci hc ‹_›), rfl⟩
      · go_round
        case rel => exact ⟨k + 1, by omega, by go_num, has_no s k hlt c ci hc ‹_› hno⟩
        case measure => simp [intOf]; omega
    · go_wp2
      go_ret
      exact ⟨ret_bool (has_end s k hlt c hno), rfl⟩

set_option maxHeartbeats 400000 in
theorem bytes15 (a b : ByteArray) (w : World) (ha : a.size ≤ maxLen) (hb : b.size ≤ maxLen) :
    Calls Try.prog 15 #[.string a, .string b] w fun e w' => e = .returned (.bool (decide (a.size + b.size ≤ 1048576))) ∧ w' = w := by
  unfold maxLen at ha hb
  go_enter Try.func15, Try.ntmps15
  go_wp2
  all_goals go_ret
  all_goals exact ⟨ret_bool (by first | exact (decide_eq_false (by omega)).symm | exact (decide_eq_true (by omega)).symm), rfl⟩
set_option maxHeartbeats 400000 in
theorem bytes17 (a : ByteArray) (w : World) (ha : a.size ≤ maxLen) :
    Calls Try.prog 17 #[.string a] w fun e w' => e = .returned (.bool (decide (a.size ≤ 1048576))) ∧ w' = w := by
  unfold maxLen at ha
  go_enter Try.func17, Try.ntmps17
  go_wp2
  all_goals go_ret
  all_goals exact ⟨ret_bool (by first | exact (decide_eq_false (by omega)).symm | exact (decide_eq_true (by omega)).symm), rfl⟩
set_option maxHeartbeats 400000 in
theorem bytes19 (a : ByteArray) (b : Bool) (w : World) (ha : a.size ≤ maxLen) :
    Calls Try.prog 19 #[.string a, .bool b] w fun e w' => e = .returned (.bool (decide (a.size ≤ 1048576))) ∧ w' = w := by
  unfold maxLen at ha
  go_enter Try.func19, Try.ntmps19
  go_wp2
  all_goals go_ret
  all_goals exact ⟨ret_bool (by first | exact (decide_eq_false (by omega)).symm | exact (decide_eq_true (by omega)).symm), rfl⟩

/-! ### quotedLength -/
/-- The reading from place k on stands for the reading from place 1 on. -/
def QR (s : ByteArray) (k : Nat) : Prop := Pl.qs s.data.toList.tail = (Pl.qs (s.data.toList.drop k)).map (· + (k - 1))
theorem qs_bs (s : ByteArray) (k : Nat) (h : k < s.size) (hx : s[k] = 92) : Pl.qs (s.data.toList.drop k) = (Pl.qs (s.data.toList.drop (k + 2))).map (· + 2) := by
  rw [drop_get s k h, hx]
  by_cases h2 : k + 1 < s.size
  · rw [drop_get s (k + 1) h2, Pl.qs, if_pos rfl]
  · rw [List.drop_of_length_le (by simp; omega), List.drop_of_length_le (by simp; omega)]; rfl
theorem qs_q (s : ByteArray) (k : Nat) (h : k < s.size) (hx : s[k] = 34) : Pl.qs (s.data.toList.drop k) = some 1 := by
  rw [drop_get s k h, hx]
  by_cases h2 : k + 1 < s.size
  · rw [drop_get s (k + 1) h2, Pl.qs, if_neg (by decide), if_pos rfl]
  · rw [List.drop_of_length_le (by simp; omega)]; rfl
theorem qs_o (s : ByteArray) (k : Nat) (h : k < s.size) (hx : s[k] ≠ 92) (hx2 : s[k] ≠ 34) : Pl.qs (s.data.toList.drop k) = (Pl.qs (s.data.toList.drop (k + 1))).map (· + 1) := by
  rw [drop_get s k h]
  by_cases h2 : k + 1 < s.size
  · rw [drop_get s (k + 1) h2, Pl.qs, if_neg hx, if_neg hx2]
  · rw [List.drop_of_length_le (by simp; omega)]
    show (if s[k] = 34 then some 1 else none) = none
    rw [if_neg hx2]
theorem QR_step (s : ByteArray) (k j : Nat) (hk : 1 ≤ k) (h : QR s k) (e : Pl.qs (s.data.toList.drop k) = (Pl.qs (s.data.toList.drop (k + j))).map (· + j)) : QR s (k + j) := by
  unfold QR at h ⊢
  rw [h, e, Option.map_map]
  congr 1
  funext x
  simp only [Function.comp_apply]; omega
theorem QR_bs (s : ByteArray) (k : Nat) (hk : 1 ≤ k) (h : k < s.size) (hx : ((s[k].toNat : Int) == 92) = true) (hq : Hid (QR s k)) : Hid (QR s (k + 2)) :=
  QR_step s k 2 hk hq.out (qs_bs s k h (eq_of s[k] 92 hx))
theorem QR_o (s : ByteArray) (k : Nat) (hk : 1 ≤ k) (h : k < s.size) (hx : ((s[k].toNat : Int) == 92) = false) (hx2 : ((s[k].toNat : Int) == 34) = false) (hq : Hid (QR s k)) : Hid (QR s (k + 1)) :=
  QR_step s k 1 hk hq.out (qs_o s k h (ne_of s[k] 92 hx) (ne_of s[k] 34 hx2))
theorem QR_hit (s : ByteArray) (k : Nat) (hk : 1 ≤ k) (h : k < s.size) (hx2 : ((s[k].toNat : Int) == 34) = true) (hq : Hid (QR s k)) : (k : Int) + 1 = (Pl.qlen s.data.toList : Int) ∧ true = Pl.qclosed s.data.toList := by
  have e : Pl.qs s.data.toList.tail = some k := by
    have := hq.out
    unfold QR at this
    rw [this, qs_q s k h (eq_of s[k] 34 hx2), Option.map_some]
    congr 1; omega
  unfold Pl.qlen Pl.qclosed
  rw [e]
  exact ⟨rfl, rfl⟩
theorem QR_end (s : ByteArray) (k : Nat) (h : ¬ k < s.size) (hq : Hid (QR s k)) : (s.size : Int) = (Pl.qlen s.data.toList : Int) ∧ false = Pl.qclosed s.data.toList := by
  have e : Pl.qs s.data.toList.tail = none := by
    have := hq.out
    unfold QR at this
    rw [this, List.drop_of_length_le (by simp; omega)]; rfl
  unfold Pl.qlen Pl.qclosed
  rw [e]
  exact ⟨by simp, rfl⟩

set_option maxHeartbeats 400000 in
theorem quoted_any (s : ByteArray) (w : World) (hs : s.size < 9223372036854775000) :
    Calls Try.prog 38 #[.string s] w fun e w' => e = .returned (.tuple #[.int .i64 (Pl.qlen s.data.toList), .bool (Pl.qclosed s.data.toList)]) ∧ w' = w := by
  go_enter Try.func38, Try.ntmps38
  go_wp2
  go_loop [4] (fun i => ∃ k : Nat, 1 ≤ k ∧ k ≤ s.size + 1 ∧ i = .int .i64 k ∧ Hid (QR s k)) (fun i => s.size + 1 - (intOf i).toNat)
  case atStart => exact ⟨1, by omega, by omega, rfl, (by unfold QR; simp : QR s 1)⟩
  case round =>
    obtain ⟨k, hk1, hk, rfl, hq⟩ := hrel
    by_cases hlt : k < s.size
    · go_wp2
      · go_round
        case rel => exact ⟨k + 2, by omega, by omega, by go_num, QR_bs s k hk1 hlt ‹_› hq⟩
        case measure => simp [intOf]; omega
      · go_ret2
        exact ⟨ret_ib (QR_hit s k hk1 hlt ‹_› hq).1 (QR_hit s k hk1 hlt ‹_› hq).2, rfl⟩
      · go_round
        case rel => exact ⟨k + 1, by omega, by omega, by go_num, QR_o s k hk1 hlt ‹_› ‹_› hq⟩
        case measure => simp [intOf]; omega
    · go_wp2
      go_ret2
      exact ⟨ret_ib (QR_end s k hlt hq).1 (QR_end s k hlt hq).2, rfl⟩

theorem zzquoted_any (s : ByteArray) (w : World) (hs : s.size < 9223372036854775000) :
    Calls Try.prog 13 #[.string s] w fun e w' => e = .returned (.tuple #[.int .i64 (Pl.qlen s.data.toList), .bool (Pl.qclosed s.data.toList)]) ∧ w' = w := by
  go_enter Try.func13, Try.ntmps13
  go_wp2_with (go_at_call 38; refine (quoted_any _ _ hs).mono ?_; rintro e w' ⟨rfl, rfl⟩)
  go_ret2
  exact ⟨rfl, rfl⟩

/-! ### zzHasCloserEsvB1 -/
def CL (s : ByteArray) (k : Nat) : Prop := Pl.hasCl s.data.toList = Pl.hasCl (s.data.toList.drop k)
theorem CL_hit (s : ByteArray) (k : Nat) (h : k + 1 < s.size) (h1 : ((s[k].toNat : Int) == 42) = true) (h2 : ((s[k + 1].toNat : Int) == 47) = true) (hq : Hid (CL s k)) : true = Pl.hasCl s.data.toList := by
  have := hq.out
  unfold CL at this
  rw [this, drop_get s k (by omega), drop_get s (k + 1) h, Pl.hasCl, eq_of s[k] 42 h1, eq_of s[k + 1] 47 h2]
  rfl
theorem CL_miss (s : ByteArray) (k : Nat) (h : k + 1 < s.size) (h1 : ((s[k].toNat : Int) == 42) = false ∨ ((s[k + 1].toNat : Int) == 47) = false) (hq : Hid (CL s k)) : Hid (CL s (k + 1)) := by
  show CL s (k + 1)
  have := hq.out
  unfold CL at this ⊢
  rw [this, drop_get s k (by omega), drop_get s (k + 1) h, Pl.hasCl]
  rcases h1 with h1 | h1
  · have := ne_of s[k] 42 h1
    simp [this]
  · have := ne_of s[k + 1] 47 h1
    simp [this]
theorem CL_end (s : ByteArray) (k : Nat) (h : ¬ k + 1 < s.size) (hq : Hid (CL s k)) : false = Pl.hasCl s.data.toList := by
  have := hq.out
  unfold CL at this
  rw [this]
  by_cases h2 : k < s.size
  · rw [drop_get s k h2, List.drop_of_length_le (by simp; omega)]; rfl
  · rw [List.drop_of_length_le (by simp; omega)]; rfl

set_option maxHeartbeats 400000 in
theorem closer_any (s : ByteArray) (w : World) (hs : s.size < 9223372036854775000) :
    Calls Try.prog 20 #[.string s] w fun e w' => e = .returned (.bool (Pl.hasCl s.data.toList)) ∧ w' = w := by
  go_enter Try.func20, Try.ntmps20
  go_wp2
  go_loop [3] (fun i => ∃ k : Nat, k ≤ s.size ∧ i = .int .i64 k ∧ Hid (CL s k)) (fun i => s.size - (intOf i).toNat)
  case atStart => exact ⟨0, by omega, rfl, (rfl : CL s 0)⟩
  case round =>
    obtain ⟨k, hk, rfl, hq⟩ := hrel
    by_cases hlt : k + 1 < s.size
    · by_cases h1 : ((s[k].toNat : Int) == 42) = true
      · go_wp2
        · go_ret
          exact ⟨ret_bool (CL_hit s k hlt h1 ‹_› hq), rfl⟩
        · go_round
          case rel => exact ⟨k + 1, by omega, by go_num, CL_miss s k hlt (Or.inr ‹_›) hq⟩
          case measure => simp [intOf]; omega
      · rw [Bool.not_eq_true] at h1
        go_wp2
        go_round
        case rel => exact ⟨k + 1, by omega, by go_num, CL_miss s k hlt (Or.inl h1) hq⟩
        case measure => simp [intOf]; omega
    · go_wp2
      go_ret
      exact ⟨ret_bool (CL_end s k hlt hq), rfl⟩
end Go.Proofs.Qxb6001153a.Wk
