import Derived.Test.Qxb6600667aWalksH
namespace Go.Proofs.Qxb6600667a.Wk
open Go.RowKit
set_option linter.unusedVariables false

theorem lpEnd_some (s : ByteArray) (n : Nat) (h : Hid (Pl.lpe s.data.toList = some n)) (w : World) (hs : s.size < 4294967281) :
    Calls Try.prog 15 #[.string s] w fun e w' => e = .returned (.int .i64 n) ∧ w' = w := by
  have h1 := lpEnd_any s w hs
  rw [← lpI_some s n h.out] at h1
  exact h1
theorem lpEnd_none (s : ByteArray) (h : Hid (Pl.lpe s.data.toList = none)) (w : World) (hs : s.size < 4294967281) :
    Calls Try.prog 15 #[.string s] w fun e w' => e = .returned (.int .i64 (-1)) ∧ w' = w := by
  have h1 := lpEnd_any s w hs
  rw [← lpI_none s h.out] at h1
  exact h1
theorem lpe_size (s : ByteArray) (n : Nat) (h : Hid (Pl.lpe s.data.toList = some n)) : n < s.size := by
  have := Pl.lpe_lt _ _ h.out
  rw [Lib.size_eq]; exact this
theorem model_some (s : ByteArray) (n k : Nat) (h : Hid (Pl.lpe s.data.toList = some n)) (hk : ¬ k < s.size) : (⟨(mapTo Pl.low (n + 1) k s.data.toList).toArray⟩ : ByteArray) = ⟨(Pl.fold s.data.toList).toArray⟩ := by
  rw [mapTo_end _ _ _ _ (by rw [← Lib.size_eq]; omega)]
  have hf : Pl.fold s.data.toList = Pl.foldAt n s.data.toList := by unfold Pl.fold; rw [h.out]
  rw [hf]; rfl

set_option maxHeartbeats 2000000 in
theorem model_any (s : ByteArray) (w : World) (hs : s.size < 4194304) :
    Calls Try.prog 12 #[.string s] w fun e w' => e = .returned (.string ⟨(Pl.fold s.data.toList).toArray⟩) ∧ Below w.heap.size w w' := by
  rcases hl : Pl.lpe s.data.toList with _ | n
  · have HL : Hid (Pl.lpe s.data.toList = none) := hl
    clear hl
    go_enter Try.func12, Try.ntmps12
    go_wp2_with fail
    refine (lpEnd_none s HL _ (by omega)).mono ?_
    rintro e w' ⟨rfl, rfl⟩
    go_wp2
    go_ret
    exact ⟨ret_str (fold_none s HL), Below.refl _ _⟩
  · have HL : Hid (Pl.lpe s.data.toList = some n) := hl
    clear hl
    have hn := lpe_size s n HL
    obtain ⟨cap, w1, hconv, hrow1, hb1, hlt1⟩ := row_conv w s
    go_enter Try.func12, Try.ntmps12
    go_wp2_with fail
    refine (lpEnd_some s n HL _ (by omega)).mono ?_
    rintro e w' ⟨rfl, rfl⟩
    go_wp2
    go_loopw [5] (fun i wr => ∃ k : Nat, n + 1 ≤ k ∧ k ≤ s.size ∧ i = .int .i64 k ∧ RowAt wr w'.heap.size (mapTo Pl.low (n + 1) k s.data.toList) ∧ Below w'.heap.size w' wr) (fun i _ => s.size - (intOf i).toNat)
    case atStart => exact ⟨n + 1, Nat.le_refl _, by omega, by go_num, by rw [mapTo_start _ _ _ _ (Nat.le_refl _)]; exact hrow1, hb1⟩
    case round =>
      obtain ⟨k, hnk, hk, rfl, hrow, hb⟩ := hrel
      by_cases hk : k < s.size
      · obtain ⟨hc, hf⟩ := hrow k s[k] (by rw [mapTo_get, get_data s k hk]; simp)
        by_cases hl : 65 ≤ (s[k].toNat : Int) ∧ (s[k].toNat : Int) ≤ 90
        · have HLL : Hid (65 ≤ (s[k].toNat : Int) ∧ (s[k].toNat : Int) ≤ 90) := hl
          go_wp2
          go_roundw
          case rel => exact ⟨k + 1, by omega, by omega, by go_num, row_step hrow (get_data s k hk) hnk (low_or s[k] HLL.out), hb.setCell (by exact Nat.le_refl _) _⟩
          case measure => simp [intOf]; omega
        · have HLL : Hid (¬ (65 ≤ (s[k].toNat : Int) ∧ (s[k].toNat : Int) ≤ 90)) := hl
          go_wp2
          all_goals
            go_roundw
            case rel => exact ⟨k + 1, by omega, by omega, by go_num, by rw [← mapTo_skip _ _ _ _ s[k] (get_data s k hk) (low_id s[k] HLL.out)]; exact hrow, hb⟩
            case measure => simp [intOf]; omega
      · have hback := row_back wr w'.heap.size s.size cap _ hrow (by rw [mapTo_length, ← Lib.size_eq])
        go_wp2
        go_ret
        exact ⟨ret_str (model_some s n k HL hk), hb⟩

set_option maxHeartbeats 400000 in
theorem bytes10 (a : ByteArray) (w : World) (ha : a.size ≤ maxLen) :
    Calls Try.prog 10 #[.string a] w fun e w' => e = .returned (.bool (decide (a.size ≤ 1048576))) ∧ w' = w := by
  unfold maxLen at ha
  go_enter Try.func10, Try.ntmps10
  go_wp2
  all_goals go_ret
  all_goals exact ⟨ret_bool (by first | exact (decide_eq_false (by omega)).symm | exact (decide_eq_true (by omega)).symm), rfl⟩

set_option maxHeartbeats 2000000 in
theorem walk6 (a0 : ByteArray) (w0 : a0.size ≤ maxLen) (m : Int) (w : World) (hm : w.cell? ⟨0, 0, none⟩ = some (.int .i64 m)) (h0 : 0 < w.heap.size) :
    Calls Try.prog 6 #[.string a0] w fun e w' => e = .returned (.bool true) ∧ Below w.heap.size w w' := by
  by_cases hB : a0.size ≤ 1048576
  · have hB' : decide (a0.size ≤ 1048576) = true := decide_eq_true hB
    go_enter Try.func6, Try.ntmps6
    go_wp2_with fail
    refine (bytes10 _ _ w0).mono ?_
    rintro e w' ⟨rfl, rfl⟩
    go_wp2_with fail
    refine (fold_any _ m _ (by omega) (by exact hm)).mono ?_
    rintro e w2 ⟨rfl, hb⟩
    have hs2 := hb.size
    go_wp2_with fail
    refine (model_any _ _ (by omega)).mono ?_
    rintro e w3 ⟨rfl, hb3⟩
    go_wp2
    go_ret
    exact ⟨rfl, hb.trans (hb3.mono hs2)⟩
  · have hB' : decide (a0.size ≤ 1048576) = false := decide_eq_false hB
    go_enter Try.func6, Try.ntmps6
    go_wp2_with fail
    refine (bytes10 _ _ w0).mono ?_
    rintro e w' ⟨rfl, rfl⟩
    go_wp2
    go_ret
    exact ⟨rfl, Below.refl _ _⟩
end Go.Proofs.Qxb6600667a.Wk
