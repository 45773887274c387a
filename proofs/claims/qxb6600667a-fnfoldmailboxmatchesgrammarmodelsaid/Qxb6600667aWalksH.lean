import Derived.Test.Qxb6600667aWalksG
namespace Go.Proofs.Qxb6600667a.Wk
open Go.RowKit
set_option linter.unusedVariables false

/-- What localPartEnd hands back. -/
def lpI (s : ByteArray) : Int := match Pl.lpe s.data.toList with | some n => (n : Int) | none => -1
theorem lpI_some (s : ByteArray) (n : Nat) (h : Pl.lpe s.data.toList = some n) : (n : Int) = lpI s := by unfold lpI; rw [h]
theorem lpI_none (s : ByteArray) (h : Pl.lpe s.data.toList = none) : -1 = lpI s := by unfold lpI; rw [h]

/-! ### the quoted reader, by places -/
def QE (s : ByteArray) (b : Bool) (k : Nat) : Prop := Pl.qend false s.data.toList.tail = (Pl.qend b (s.data.toList.drop k)).map (· + (k - 1))
theorem QE_step (s : ByteArray) (k : Nat) (b b' : Bool) (hk : 1 ≤ k) (h : Hid (QE s b k)) (e : Pl.qend b (s.data.toList.drop k) = (Pl.qend b' (s.data.toList.drop (k + 1))).map (· + 1)) : Hid (QE s b' (k + 1)) := by
  show QE s b' (k + 1)
  have h1 := h.out
  unfold QE at h1 ⊢
  rw [h1, e, Option.map_map]
  congr 1
  funext x
  simp only [Function.comp_apply]; omega
theorem QE_none (s : ByteArray) (k : Nat) (b : Bool) (hq : s.data.toList.head? = some 34) (h : Hid (QE s b k)) (e : Pl.qend b (s.data.toList.drop k) = none) : -1 = lpI s := by
  have h1 := h.out
  unfold QE at h1
  rw [e] at h1
  apply lpI_none
  unfold Pl.lpe
  rw [if_pos hq, h1]; rfl
theorem QE_some (s : ByteArray) (k : Nat) (b : Bool) (hk : 1 ≤ k) (hq : s.data.toList.head? = some 34) (h : Hid (QE s b k)) (e : Pl.qend b (s.data.toList.drop k) = some 1) : (k : Int) + 1 = lpI s := by
  have h1 := h.out
  unfold QE at h1
  rw [e] at h1
  have : Pl.lpe s.data.toList = some (k + 1) := by
    unfold Pl.lpe
    rw [if_pos hq, h1]
    simp only [Option.map_some]
    congr 1; omega
  rw [← lpI_some s _ this]; omega
theorem ctl_no (c : UInt8) (h1 : 32 ≤ (c.toNat : Int)) (h2 : (c.toNat : Int) ≤ 126) : ¬ (c < 32 ∨ 126 < c) := by
  rintro (x | x)
  · exact not_lt_of_int c 32 h1 x
  · exact not_lt_of_int 126 c h2 x
theorem ctl_yes (c : UInt8) (h : (c.toNat : Int) < 32 ∨ 126 < (c.toNat : Int)) : c < 32 ∨ 126 < c := by
  rcases h with x | x
  · exact Or.inl (lt_of_int c 32 x)
  · exact Or.inr (lt_of_int 126 c x)
theorem qe_ctl (s : ByteArray) (k : Nat) (b : Bool) (h : k < s.size) (hc : (s[k].toNat : Int) < 32 ∨ 126 < (s[k].toNat : Int)) : Pl.qend b (s.data.toList.drop k) = none := by
  rw [drop_get s k h, Pl.qend, if_pos (ctl_yes _ hc)]
theorem qe_esc (s : ByteArray) (k : Nat) (h : k < s.size) (h1 : 32 ≤ (s[k].toNat : Int)) (h2 : (s[k].toNat : Int) ≤ 126) : Pl.qend true (s.data.toList.drop k) = (Pl.qend false (s.data.toList.drop (k + 1))).map (· + 1) := by
  rw [drop_get s k h, Pl.qend, if_neg (ctl_no _ h1 h2), if_pos rfl]
theorem qe_bs (s : ByteArray) (k : Nat) (h : k < s.size) (h1 : 32 ≤ (s[k].toNat : Int)) (h2 : (s[k].toNat : Int) ≤ 126) (h92 : ((s[k].toNat : Int) == 92) = true) : Pl.qend false (s.data.toList.drop k) = (Pl.qend true (s.data.toList.drop (k + 1))).map (· + 1) := by
  rw [drop_get s k h, Pl.qend, if_neg (ctl_no _ h1 h2), if_neg (by simp), if_pos (eq_of s[k] 92 h92)]
theorem qe_q (s : ByteArray) (k : Nat) (h : k < s.size) (h1 : 32 ≤ (s[k].toNat : Int)) (h2 : (s[k].toNat : Int) ≤ 126) (h92 : ((s[k].toNat : Int) == 92) = false) (h34 : ((s[k].toNat : Int) == 34) = true) :
    Pl.qend false (s.data.toList.drop k) = if (s.data.toList.drop (k + 1)).head? = some 64 then some 1 else none := by
  rw [drop_get s k h, Pl.qend, if_neg (ctl_no _ h1 h2), if_neg (by simp), if_neg (ne_of s[k] 92 h92), if_pos (eq_of s[k] 34 h34)]
theorem qe_on (s : ByteArray) (k : Nat) (h : k < s.size) (h1 : 32 ≤ (s[k].toNat : Int)) (h2 : (s[k].toNat : Int) ≤ 126) (h92 : ((s[k].toNat : Int) == 92) = false) (h34 : ((s[k].toNat : Int) == 34) = false) :
    Pl.qend false (s.data.toList.drop k) = (Pl.qend false (s.data.toList.drop (k + 1))).map (· + 1) := by
  rw [drop_get s k h, Pl.qend, if_neg (ctl_no _ h1 h2), if_neg (by simp), if_neg (ne_of s[k] 92 h92), if_neg (ne_of s[k] 34 h34)]
theorem qe_hit (s : ByteArray) (k : Nat) (h : k + 1 < s.size) (h1 : 32 ≤ (s[k].toNat : Int)) (h2 : (s[k].toNat : Int) ≤ 126) (h92 : ((s[k].toNat : Int) == 92) = false) (h34 : ((s[k].toNat : Int) == 34) = true) (h64 : ((s[k + 1].toNat : Int) == 64) = true) : Pl.qend false (s.data.toList.drop k) = some 1 := by
  rw [qe_q s k (by omega) h1 h2 h92 h34, drop_get s (k + 1) h, if_pos (by rw [eq_of s[k + 1] 64 h64]; rfl)]
theorem qe_miss (s : ByteArray) (k : Nat) (h : k + 1 < s.size) (h1 : 32 ≤ (s[k].toNat : Int)) (h2 : (s[k].toNat : Int) ≤ 126) (h92 : ((s[k].toNat : Int) == 92) = false) (h34 : ((s[k].toNat : Int) == 34) = true) (h64 : ((s[k + 1].toNat : Int) == 64) = false) : Pl.qend false (s.data.toList.drop k) = none := by
  rw [qe_q s k (by omega) h1 h2 h92 h34, drop_get s (k + 1) h, if_neg (by intro e; exact ne_of s[k + 1] 64 h64 (Option.some.inj e))]
theorem qe_last (s : ByteArray) (k : Nat) (hk : k < s.size) (h : ¬ k + 1 < s.size) (h1 : 32 ≤ (s[k].toNat : Int)) (h2 : (s[k].toNat : Int) ≤ 126) (h92 : ((s[k].toNat : Int) == 92) = false) (h34 : ((s[k].toNat : Int) == 34) = true) : Pl.qend false (s.data.toList.drop k) = none := by
  rw [qe_q s k hk h1 h2 h92 h34, drop_end s (k + 1) h]; rfl
theorem qe_end (s : ByteArray) (k : Nat) (b : Bool) (h : ¬ k < s.size) : Pl.qend b (s.data.toList.drop k) = none := by
  rw [drop_end s k h]; cases b <;> rfl

/-! ### the reader of a Dot-string, by places -/
def DE (s : ByteArray) (st : Bool) (j : Nat) : Prop := Pl.dotM true s.data.toList = (Pl.dotM st (s.data.toList.drop j)).map (· + j)
theorem DE_none (s : ByteArray) (j : Nat) (st : Bool) (hq : ¬ s.data.toList.head? = some 34) (h : Hid (DE s st j)) (e : Pl.dotM st (s.data.toList.drop j) = none) : -1 = lpI s := by
  have h1 := h.out
  unfold DE at h1
  rw [e] at h1
  apply lpI_none
  unfold Pl.lpe
  rw [if_neg hq, h1]; rfl
theorem DE_at (s : ByteArray) (k j : Nat) (hj : j < s.size) (hkj : k ≤ j) (ha : Pl.atB s[j] = true) (h : Hid (DE s (decide (j = k)) j)) : Hid (DE s (decide (j + 1 = k)) (j + 1)) := by
  show DE s (decide (j + 1 = k)) (j + 1)
  have h1 := h.out
  unfold DE at h1 ⊢
  rw [decide_eq_false (by omega)]
  rw [h1, drop_get s j hj, Pl.dotM, if_pos ha, Option.map_map]
  congr 1
  funext x
  simp only [Function.comp_apply]; omega
theorem DE_start (s : ByteArray) (j : Nat) (hn : ∀ h : j < s.size, Pl.atB s[j] = false) (hq : ¬ s.data.toList.head? = some 34) (h : Hid (DE s true j)) : -1 = lpI s := by
  refine DE_none s j true hq h ?_
  by_cases hj : j < s.size
  · rw [drop_get s j hj, Pl.dotM, if_neg (by simp [hn hj]), if_pos rfl]
  · rw [drop_end s j hj]; rfl
theorem DE_dot (s : ByteArray) (k j : Nat) (hj : j < s.size) (hkj : k ≠ j) (h46 : ((s[j].toNat : Int) == 46) = true) (h : Hid (DE s (decide (j = k)) j)) : Hid (DE s true (j + 1)) := by
  show DE s true (j + 1)
  have h1 := h.out
  unfold DE at h1 ⊢
  rw [decide_eq_false (fun e => hkj e.symm)] at h1
  have e46 := eq_of s[j] 46 h46
  rw [h1, drop_get s j hj, Pl.dotM, if_neg (by rw [e46, Pl.at46]; simp), if_neg (by simp), if_pos e46, Option.map_map]
  congr 1
  funext x
  simp only [Function.comp_apply]; omega
theorem DE_hit (s : ByteArray) (k j : Nat) (hj : j < s.size) (hkj : k ≠ j) (h64 : ((s[j].toNat : Int) == 64) = true) (hq : ¬ s.data.toList.head? = some 34) (h : Hid (DE s (decide (j = k)) j)) : (j : Int) = lpI s := by
  have h1 := h.out
  unfold DE at h1
  rw [decide_eq_false (fun e => hkj e.symm)] at h1
  have e64 := eq_of s[j] 64 h64
  rw [drop_get s j hj, Pl.dotM, if_neg (by rw [e64, Pl.at64]; simp), if_neg (by simp), if_neg (by rw [e64]; decide), if_pos e64] at h1
  apply lpI_some
  unfold Pl.lpe
  rw [if_neg hq, h1]; simp
theorem DE_other (s : ByteArray) (k j : Nat) (hj : j < s.size) (hkj : k ≠ j) (ha : Pl.atB s[j] = false) (h46 : ((s[j].toNat : Int) == 46) = false) (h64 : ((s[j].toNat : Int) == 64) = false) (hq : ¬ s.data.toList.head? = some 34) (h : Hid (DE s (decide (j = k)) j)) : -1 = lpI s := by
  refine DE_none s j _ hq h ?_
  rw [decide_eq_false (fun e => hkj e.symm), drop_get s j hj, Pl.dotM, if_neg (by simp [ha]), if_neg (by simp), if_neg (ne_of s[j] 46 h46), if_neg (ne_of s[j] 64 h64)]
theorem DE_end (s : ByteArray) (st : Bool) (j : Nat) (hj : ¬ j < s.size) (hq : ¬ s.data.toList.head? = some 34) (h : Hid (DE s st j)) : -1 = lpI s := by
  refine DE_none s j st hq h ?_
  rw [drop_end s j hj]; cases st <;> rfl
theorem DE_true (s : ByteArray) (j : Nat) (h : Hid (DE s (decide (j = j)) j)) : Hid (DE s true j) := by
  have := h.out
  rw [decide_eq_true rfl] at this
  exact this
set_option maxHeartbeats 2000000 in
theorem lpEnd_any (s : ByteArray) (w : World) (hs : s.size < 4294967281) :
    Calls Try.prog 15 #[.string s] w fun e w' => e = .returned (.int .i64 (lpI s)) ∧ w' = w := by
  by_cases hp : 0 < s.size
  · have hz : ((s.size : Int) == 0) = false := by rw [beq_eq_false_iff_ne]; omega
    by_cases hq : ((s[0].toNat : Int) == 34) = true
    · have hh : Hid (s.data.toList.head? = some 34) := by show s.data.toList.head? = some 34; rw [head_of s hp, eq_of s[0] 34 hq]
      go_enter Try.func15, Try.ntmps15
      go_wp2
      go_loop [3, 4] (fun t i => ∃ (k : Nat) (b : Bool), 1 ≤ k ∧ k ≤ s.size ∧ i = .int .i64 k ∧ t = .bool b ∧ Hid (QE s b k)) (fun _ i => s.size - (intOf i).toNat)
      case atStart => exact ⟨1, false, by omega, by omega, rfl, rfl, (by unfold QE; simp : QE s false 1)⟩
      case round =>
        obtain ⟨k, b, hk1, hk, rfl, rfl, hr⟩ := hrel
        by_cases hlt : k < s.size
        · by_cases hc : (s[k].toNat : Int) < 32
          · go_wp2
            go_ret
            exact ⟨ret_int (QE_none s k b hh.out hr (qe_ctl s k b hlt (Or.inl hc))), rfl⟩
          · by_cases hc2 : 126 < (s[k].toNat : Int)
            · go_wp2
              go_ret
              exact ⟨ret_int (QE_none s k b hh.out hr (qe_ctl s k b hlt (Or.inr hc2))), rfl⟩
            · have g1 : 32 ≤ (s[k].toNat : Int) := by omega
              have g2 : (s[k].toNat : Int) ≤ 126 := by omega
              clear hc hc2
              cases b with
              | true =>
                go_wp2
                go_round
                case rel => exact ⟨k + 1, false, by omega, by omega, by go_num, rfl, QE_step s k true false hk1 hr (qe_esc s k hlt g1 g2)⟩
                case measure => simp [intOf]; omega
              | false =>
                by_cases h92 : ((s[k].toNat : Int) == 92) = true
                · go_wp2
                  go_round
                  case rel => exact ⟨k + 1, true, by omega, by omega, by go_num, rfl, QE_step s k false true hk1 hr (qe_bs s k hlt g1 g2 h92)⟩
                  case measure => simp [intOf]; omega
                · rw [Bool.not_eq_true] at h92
                  by_cases h34 : ((s[k].toNat : Int) == 34) = true
                  · by_cases hn : k + 1 < s.size
                    · have hn' : (k : Int) + 1 < (s.size : Int) := by omega
                      by_cases h64 : ((s[k + 1].toNat : Int) == 64) = true
                      · go_wp2
                        go_ret
                        exact ⟨ret_int (QE_some s k false hk1 hh.out hr (qe_hit s k hn g1 g2 h92 h34 h64)), rfl⟩
                      · rw [Bool.not_eq_true] at h64
                        go_wp2
                        go_ret
                        exact ⟨ret_int (QE_none s k false hh.out hr (qe_miss s k hn g1 g2 h92 h34 h64)), rfl⟩
                    · go_wp2
                      go_ret
                      exact ⟨ret_int (QE_none s k false hh.out hr (qe_last s k hlt hn g1 g2 h92 h34)), rfl⟩
                  · rw [Bool.not_eq_true] at h34
                    go_wp2
                    go_round
                    case rel => exact ⟨k + 1, false, by omega, by omega, by go_num, rfl, QE_step s k false false hk1 hr (qe_on s k hlt g1 g2 h92 h34)⟩
                    case measure => simp [intOf]; omega
        · go_wp2
          go_ret
          exact ⟨ret_int (QE_none s k b hh.out hr (qe_end s k b hlt)), rfl⟩
    · rw [Bool.not_eq_true] at hq
      have hh : Hid (¬ s.data.toList.head? = some 34) := by
        show ¬ s.data.toList.head? = some 34
        rw [head_of s hp]; intro e; exact ne_of s[0] 34 hq (Option.some.inj e)
      go_enter Try.func15, Try.ntmps15
      go_wp2
      go_loop [6] (fun i => ∃ k : Nat, k ≤ s.size ∧ i = .int .i64 k ∧ Hid (DE s true k)) (fun i => s.size - (intOf i).toNat)
      case atStart => exact ⟨0, by omega, rfl, (by unfold DE; simp : DE s true 0)⟩
      case round =>
        obtain ⟨k, hk, rfl, hr⟩ := hrel
        go_wp2
        go_loop [6] (fun i => ∃ j : Nat, k ≤ j ∧ j ≤ s.size ∧ i = .int .i64 j ∧ Hid (DE s (decide (j = k)) j)) (fun i => s.size - (intOf i).toNat)
        case atStart => exact ⟨k, Nat.le_refl _, hk, rfl, by rw [decide_eq_true rfl]; exact hr⟩
        case round =>
          obtain ⟨j, hkj, hj, rfl, hd⟩ := hrel
          by_cases hlt : j < s.size
          · by_cases ha : Pl.atB s[j] = true
            · go_wp2_with fail
              refine (atext_model _ _).mono ?_
              rintro e w' ⟨rfl, rfl⟩
              go_wp2
              go_round
              case rel => exact ⟨j + 1, by omega, by omega, by go_num, DE_at s k j hlt hkj ha hd⟩
              case measure => simp [intOf]; omega
            · rw [Bool.not_eq_true] at ha
              go_wp2_with fail
              refine (atext_model _ _).mono ?_
              rintro e w' ⟨rfl, rfl⟩
              by_cases hjk : j = k
              · subst hjk
                have hd' := DE_true s j hd
                clear hd
                go_wp2
                go_ret
                exact ⟨ret_int (DE_start s j (fun _ => ha) hh.out hd'), rfl⟩
              · have hjk' : ((j : Int) == (k : Int)) = false := by rw [beq_eq_false_iff_ne]; omega
                have HJ : Hid (k ≠ j) := fun e => hjk e.symm
                clear hjk
                by_cases h46 : ((s[j].toNat : Int) == 46) = true
                · go_wp2
                  go_round
                  case rel => exact ⟨j + 1, by omega, by go_num, DE_dot s k j hlt HJ.out h46 hd⟩
                  case measure => simp [intOf]; have := HJ.out; omega
                · rw [Bool.not_eq_true] at h46
                  by_cases h64 : ((s[j].toNat : Int) == 64) = true
                  · go_wp2
                    go_ret
                    exact ⟨ret_int (DE_hit s k j hlt HJ.out h64 hh.out hd), rfl⟩
                  · rw [Bool.not_eq_true] at h64
                    go_wp2
                    go_ret
                    exact ⟨ret_int (DE_other s k j hlt HJ.out ha h46 h64 hh.out hd), rfl⟩
          · by_cases hjk : j = k
            · subst hjk
              have hd' := DE_true s j hd
              clear hd
              go_wp2
              go_ret
              exact ⟨ret_int (DE_end s true j hlt hh.out hd'), rfl⟩
            · have hjk' : ((j : Int) == (k : Int)) = false := by rw [beq_eq_false_iff_ne]; omega
              go_wp2
              go_ret
              exact ⟨ret_int (DE_end s _ j hlt hh.out hd), rfl⟩
  · have hz : ((s.size : Int) == 0) = true := by rw [beq_iff_eq]; omega
    have he : s.data.toList = [] := by rw [← List.length_eq_zero_iff, ← Lib.size_eq]; omega
    have HE : Hid (s.data.toList = []) := he
    clear he
    go_enter Try.func15, Try.ntmps15
    go_wp2
    go_ret
    exact ⟨ret_int (lpI_none s (by rw [HE.out]; rfl)), rfl⟩
end Go.Proofs.Qxb6600667a.Wk
