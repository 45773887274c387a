import Derived.Test.Qxb6600667aWalksA
import Derived.WalkSpells
namespace Go.Proofs.Qxb6600667a.Wk
open Go.RowKit
set_option linter.unusedVariables false

/-- The reading from place k on stands for the reading from place 1 on. -/
def QR (s : ByteArray) (k : Nat) : Prop := Pl.qsl s.data.toList.tail = (Pl.qsl (s.data.toList.drop k)).map (· + (k - 1))
theorem qsl_q (s : ByteArray) (k : Nat) (h : k < s.size) (hx : s[k] = 34) : Pl.qsl (s.data.toList.drop k) = some 1 := by
  rw [drop_get s k h, hx]
  by_cases h2 : k + 1 < s.size
  · rw [drop_get s (k + 1) h2, Pl.qsl, if_pos rfl]
  · rw [drop_end s (k + 1) h2]; rfl
theorem le_of_int (a b : UInt8) (h : (a.toNat : Int) ≤ (b.toNat : Int)) : a ≤ b := by rw [UInt8.le_iff_toNat_le]; omega
theorem lt_of_int (a b : UInt8) (h : (a.toNat : Int) < (b.toNat : Int)) : a < b := by rw [UInt8.lt_iff_toNat_lt]; omega
theorem not_lt_of_int (a b : UInt8) (h : (b.toNat : Int) ≤ (a.toNat : Int)) : ¬ a < b := by rw [UInt8.lt_iff_toNat_lt]; omega
theorem not_le_of_int (a b : UInt8) (h : (b.toNat : Int) < (a.toNat : Int)) : ¬ a ≤ b := by rw [UInt8.le_iff_toNat_le]; omega
theorem QR_step (s : ByteArray) (k j : Nat) (hk : 1 ≤ k) (h : QR s k) (e : Pl.qsl (s.data.toList.drop k) = (Pl.qsl (s.data.toList.drop (k + j))).map (· + j)) : QR s (k + j) := by
  unfold QR at h ⊢
  rw [h, e, Option.map_map]
  congr 1
  funext x
  simp only [Function.comp_apply]; omega
theorem QR_none (s : ByteArray) (k : Nat) (h : Hid (QR s k)) (e : Pl.qsl (s.data.toList.drop k) = none) : Hid (Pl.qsl s.data.toList.tail = none) := by
  show Pl.qsl s.data.toList.tail = none
  have := h.out
  unfold QR at this
  rw [this, e]; rfl
theorem QR_hit (s : ByteArray) (k : Nat) (hk : 1 ≤ k) (h : k < s.size) (hx : ((s[k].toNat : Int) == 34) = true) (hq : Hid (QR s k)) : Hid (Pl.qsl s.data.toList.tail = some k) := by
  show Pl.qsl s.data.toList.tail = some k
  have := hq.out
  unfold QR at this
  rw [this, qsl_q s k h (eq_of s[k] 34 hx), Option.map_some]
  congr 1; omega
theorem QR_esc (s : ByteArray) (k : Nat) (hk : 1 ≤ k) (h : k + 1 < s.size) (h34 : ((s[k].toNat : Int) == 34) = false) (h92 : ((s[k].toNat : Int) == 92) = true) (h1 : 32 ≤ (s[k + 1].toNat : Int)) (h2 : (s[k + 1].toNat : Int) ≤ 126) (hq : Hid (QR s k)) : Hid (QR s (k + 2)) := by
  refine QR_step s k 2 hk hq.out ?_
  rw [drop_get s k (by omega), drop_get s (k + 1) h, Pl.qsl, if_neg (ne_of s[k] 34 h34), if_pos ⟨eq_of s[k] 92 h92, le_of_int 32 s[k + 1] h1, le_of_int s[k + 1] 126 h2⟩]
theorem QR_on (s : ByteArray) (k : Nat) (hk : 1 ≤ k) (h : k < s.size) (h34 : ((s[k].toNat : Int) == 34) = false) (h92 : ((s[k].toNat : Int) == 92) = false) (h1 : 32 ≤ (s[k].toNat : Int)) (h2 : (s[k].toNat : Int) ≤ 126) (hq : Hid (QR s k)) : Hid (QR s (k + 1)) := by
  refine QR_step s k 1 hk hq.out ?_
  have e92 := ne_of s[k] 92 h92
  rw [drop_get s k h]
  by_cases h3 : k + 1 < s.size
  · rw [drop_get s (k + 1) h3, Pl.qsl, if_neg (ne_of s[k] 34 h34), if_neg (fun x => e92 x.1), if_neg (by rintro (x | x | x); exact not_lt_of_int s[k] 32 h1 x; exact not_lt_of_int 126 s[k] h2 x; exact e92 x)]
  · rw [drop_end s (k + 1) h3]
    show (if s[k] = 34 then some 1 else none) = none
    rw [if_neg (ne_of s[k] 34 h34)]
theorem QR_ctl (s : ByteArray) (k : Nat) (h : k < s.size) (h34 : ((s[k].toNat : Int) == 34) = false) (h92 : ((s[k].toNat : Int) == 92) = false) (h1 : (s[k].toNat : Int) < 32 ∨ 126 < (s[k].toNat : Int)) (hq : Hid (QR s k)) : Hid (Pl.qsl s.data.toList.tail = none) := by
  refine QR_none s k hq ?_
  have e92 := ne_of s[k] 92 h92
  rw [drop_get s k h]
  by_cases h3 : k + 1 < s.size
  · rw [drop_get s (k + 1) h3, Pl.qsl, if_neg (ne_of s[k] 34 h34), if_neg (fun x => e92 x.1), if_pos (by rcases h1 with x | x; exact Or.inl (lt_of_int s[k] 32 x); exact Or.inr (Or.inl (lt_of_int 126 s[k] x)))]
  · rw [drop_end s (k + 1) h3]
    show (if s[k] = 34 then some 1 else none) = none
    rw [if_neg (ne_of s[k] 34 h34)]
theorem QR_bs1 (s : ByteArray) (k : Nat) (h : k < s.size) (h3 : ¬ k + 1 < s.size) (h34 : ((s[k].toNat : Int) == 34) = false) (hq : Hid (QR s k)) : Hid (Pl.qsl s.data.toList.tail = none) := by
  refine QR_none s k hq ?_
  rw [drop_get s k h, drop_end s (k + 1) h3]
  show (if s[k] = 34 then some 1 else none) = none
  rw [if_neg (ne_of s[k] 34 h34)]
theorem QR_bs2 (s : ByteArray) (k : Nat) (h : k + 1 < s.size) (h34 : ((s[k].toNat : Int) == 34) = false) (h92 : ((s[k].toNat : Int) == 92) = true) (h1 : (s[k + 1].toNat : Int) < 32 ∨ 126 < (s[k + 1].toNat : Int)) (hq : Hid (QR s k)) : Hid (Pl.qsl s.data.toList.tail = none) := by
  refine QR_none s k hq ?_
  rw [drop_get s k (by omega), drop_get s (k + 1) h, Pl.qsl, if_neg (ne_of s[k] 34 h34), if_neg (by rintro ⟨_, x, y⟩; rcases h1 with z | z; exact not_le_of_int 32 s[k + 1] z x; exact not_le_of_int s[k + 1] 126 z y), if_pos (Or.inr (Or.inr (eq_of s[k] 92 h92)))]
theorem QR_end (s : ByteArray) (k : Nat) (h : ¬ k < s.size) (hq : Hid (QR s k)) : Hid (Pl.qsl s.data.toList.tail = none) :=
  QR_none s k hq (by rw [drop_end s k h]; rfl)

theorem below1 (w : World) (o : Obj) : Below w.heap.size w (w.alloc o) := (Below.refl _ w).alloc (Nat.le_refl _) _
theorem below2 (w : World) (o o' : Obj) : Below w.heap.size w ((w.alloc o).alloc o') := (below1 w o).alloc (by simp) _
/-- The end of a call that failed: a fresh error; nothing that was there has turned. -/
def Failed2 (w : World) (e : Ending) (w' : World) : Prop := ∃ a : Addr, e = .returned (.tuple #[.int .i64 0, .iface 40 (.pointer (some a))]) ∧ Below w.heap.size w w'

set_option maxHeartbeats 1000000 in
theorem quotedStr_any (s : ByteArray) (w : World) (hs : s.size < 9223372036854775000) :
    Calls Try.prog 22 #[.string s] w fun e w' => (∃ k : Nat, Hid (Pl.qsl s.data.toList.tail = some k) ∧ k + 1 ≤ s.size ∧ e = .returned (.tuple #[.int .i64 (k + 1), .nilIface]) ∧ w' = w) ∨ (Hid (Pl.qsl s.data.toList.tail = none) ∧ Failed2 w e w') := by
  go_enter Try.func22, Try.ntmps22
  go_wp2
  go_loop [4] (fun i => ∃ k : Nat, 1 ≤ k ∧ k ≤ s.size + 1 ∧ i = .int .i64 k ∧ Hid (QR s k)) (fun i => s.size + 1 - (intOf i).toNat)
  case atStart => exact ⟨1, by omega, by omega, rfl, (by unfold QR; simp : QR s 1)⟩
  case round =>
    obtain ⟨k, hk1, hk, rfl, hq⟩ := hrel
    by_cases hlt : k < s.size
    · have c1 : (0 : Int) ≤ (k : Int) + 1 := by omega
      have c2 : (k : Int) + 1 ≤ (s.size : Int) := by omega
      have c3 : (k : Int) ≤ (k : Int) + 1 := by omega
      by_cases h34 : ((s[k].toNat : Int) == 34) = true
      · go_wp2
        go_ret2
        exact Or.inl ⟨k, QR_hit s k hk1 hlt h34 hq, by omega, rfl, rfl⟩
      · rw [Bool.not_eq_true] at h34
        by_cases h92 : ((s[k].toNat : Int) == 92) = true
        · have g1 : (32 : Int) ≤ (s[k].toNat : Int) := by have h' := h92; rw [beq_iff_eq] at h'; omega
          have g2 : (s[k].toNat : Int) ≤ 126 := by have h' := h92; rw [beq_iff_eq] at h'; omega
          by_cases h3 : k + 1 < s.size
          · by_cases h4 : 32 ≤ (s[k + 1].toNat : Int) ∧ (s[k + 1].toNat : Int) ≤ 126
            · obtain ⟨h5, h6⟩ := h4
              go_wp2
              go_round
              case rel => exact ⟨k + 2, by omega, by omega, by go_num, QR_esc s k hk1 h3 h34 h92 h5 h6 hq⟩
              case measure => simp [intOf]; omega
            · rcases (show (s[k + 1].toNat : Int) < 32 ∨ (32 ≤ (s[k + 1].toNat : Int) ∧ 126 < (s[k + 1].toNat : Int)) by omega) with h5 | ⟨h5, h6⟩
              · go_wp2_with (go_at_call 21; refine (errorf_any _ _ _ _ _).mono ?_; rintro e w' ⟨rfl, rfl⟩)
                go_ret2
                exact Or.inr ⟨QR_bs2 s k h3 h34 h92 (Or.inl h5) hq, _, rfl, by first | exact below2 _ _ _ | exact below1 _ _⟩
              · go_wp2_with (go_at_call 21; refine (errorf_any _ _ _ _ _).mono ?_; rintro e w' ⟨rfl, rfl⟩)
                go_ret2
                exact Or.inr ⟨QR_bs2 s k h3 h34 h92 (Or.inr h6) hq, _, rfl, by first | exact below2 _ _ _ | exact below1 _ _⟩
          · go_wp2_with (go_at_call 21; refine (errorf_any _ _ _ _ _).mono ?_; rintro e w' ⟨rfl, rfl⟩)
            go_ret2
            exact Or.inr ⟨QR_bs1 s k hlt h3 h34 hq, _, rfl, by first | exact below2 _ _ _ | exact below1 _ _⟩
        · rw [Bool.not_eq_true] at h92
          by_cases h5 : (s[k].toNat : Int) < 32
          · go_wp2_with (go_at_call 21; refine (errorf_any _ _ _ _ _).mono ?_; rintro e w' ⟨rfl, rfl⟩)
            go_ret2
            exact Or.inr ⟨QR_ctl s k hlt h34 h92 (Or.inl h5) hq, _, rfl, by first | exact below2 _ _ _ | exact below1 _ _⟩
          · by_cases h6 : 126 < (s[k].toNat : Int)
            · go_wp2_with (go_at_call 21; refine (errorf_any _ _ _ _ _).mono ?_; rintro e w' ⟨rfl, rfl⟩)
              go_ret2
              exact Or.inr ⟨QR_ctl s k hlt h34 h92 (Or.inr h6) hq, _, rfl, by first | exact below2 _ _ _ | exact below1 _ _⟩
            · go_wp2
              go_round
              case rel => exact ⟨k + 1, by omega, by omega, by go_num, QR_on s k hk1 hlt h34 h92 (by omega) (by omega) hq⟩
              case measure => simp [intOf]; omega
    · go_wp2_with (go_at_call 21; refine (errorf_any _ _ _ _ _).mono ?_; rintro e w' ⟨rfl, rfl⟩)
      go_ret2
      exact Or.inr ⟨QR_end s k hlt hq, _, rfl, by first | exact below2 _ _ _ | exact below1 _ _⟩
end Go.Proofs.Qxb6600667a.Wk
