import Derived.Test.Qxb6600667aWalksG
namespace Go.Proofs.Qxb6600667a.Wk
open Go.RowKit
set_option linter.unusedVariables false

set_option maxHeartbeats 400000 in
theorem bytes13 (a : ByteArray) (w : World) (ha : a.size ≤ maxLen) :
    Calls Try.prog 13 #[.string a] w fun e w' => e = .returned (.bool (decide (a.size ≤ 1048576))) ∧ w' = w := by
  unfold maxLen at ha
  go_enter Try.func13, Try.ntmps13
  go_wp2
  all_goals go_ret
  all_goals exact ⟨ret_bool (by first | exact (decide_eq_false (by omega)).symm | exact (decide_eq_true (by omega)).symm), rfl⟩

/-- FoldMailbox's answer under a name. -/
theorem fold_named (s : ByteArray) (m : Int) (w : World) (hs : s.size < 4194304) (hm : w.cell? ⟨0, 0, none⟩ = some (.int .i64 m)) :
    Calls Try.prog 11 #[.string s] w fun e w' => ∃ F : ByteArray, e = .returned (.string F) ∧ Hid (F.data.toList = Pl.fold s.data.toList) ∧ Below w.heap.size w w' :=
  (fold_any s m w hs hm).mono fun e w' h => ⟨_, h.1, rfl, h.2⟩
theorem fold_again (s F : ByteArray) (hF : Hid (F.data.toList = Pl.fold s.data.toList)) (m : Int) (w : World) (hs : F.size < 4194304) (hm : w.cell? ⟨0, 0, none⟩ = some (.int .i64 m)) :
    Calls Try.prog 11 #[.string F] w fun e w' => e = .returned (.string F) ∧ Below w.heap.size w w' := by
  have h := fold_any F m w hs hm
  have e : Pl.fold F.data.toList = F.data.toList := by rw [hF.out, Pl.fold_fold]
  rw [e, Lib.mk_data] at h
  exact h
theorem F_size (s F : ByteArray) (hF : Hid (F.data.toList = Pl.fold s.data.toList)) : F.size = s.size := by
  rw [Lib.size_eq, Lib.size_eq, hF.out, Pl.fold_length]
theorem low_cases (c : UInt8) : Pl.low c = c ∨ (65 ≤ (c.toNat : Int) ∧ (c.toNat : Int) ≤ 90 ∧ ((Pl.low c).toNat : Int) = (c.toNat : Int) + 32) := by
  by_cases h : 65 ≤ (c.toNat : Int) ∧ (c.toNat : Int) ≤ 90
  · exact Or.inr ⟨h.1, h.2, by have := low_add c h; omega⟩
  · exact Or.inl (low_id c h)
theorem F_get (s F : ByteArray) (hF : Hid (F.data.toList = Pl.fold s.data.toList)) (k : Nat) (h1 : k < s.size) (h2 : k < F.size) :
    ((s[k].toNat : Int) != (F[k].toNat : Int)) = false ∨ (((s[k].toNat : Int) != (F[k].toNat : Int)) = true ∧ 65 ≤ (s[k].toNat : Int) ∧ (s[k].toNat : Int) ≤ 90 ∧ ((F[k].toNat : Int) == (s[k].toNat : Int) + 32) = true) := by
  have hg := Pl.fold_get s.data.toList k s[k] (get_data s k h1)
  rw [← hF.out, get_data F k h2, Option.some.injEq, Option.some.injEq] at hg
  by_cases he : F[k] = s[k]
  · left; rw [he]; simp
  · right
    rcases hg with hg | hg
    · exact absurd hg he
    · rcases low_cases s[k] with hl | ⟨a, b, c⟩
      · exact absurd (hg.trans hl) he
      · refine ⟨?_, a, b, ?_⟩
        · rw [bne_iff_ne]; rw [hg]; omega
        · rw [beq_iff_eq, hg]; exact c
/-- No at sign ahead of place A. -/
def NoAt (s : ByteArray) (A : Nat) : Prop := ∀ j, j < A → s.data.toList[j]? ≠ some 64
theorem noAt_on (s : ByteArray) (k : Nat) (h : k < s.size) (h64 : ((s[k].toNat : Int) == 64) = false) (hn : Hid (NoAt s k)) : Hid (NoAt s (k + 1)) := by
  show NoAt s (k + 1)
  intro j hj
  by_cases e : j = k
  · subst e
    rw [get_data s j h]
    intro e
    exact ne_of s[j] 64 h64 (Option.some.inj e)
  · exact hn.out j (by omega)
theorem noAt_le (s : ByteArray) (k A : Nat) (h : A ≤ k) (hn : Hid (NoAt s k)) : Hid (NoAt s A) := fun j hj => hn.out j (by omega)
theorem F_head (s F : ByteArray) (hF : Hid (F.data.toList = Pl.fold s.data.toList)) (A : Nat) (hn : Hid (NoAt s A)) (k : Nat) (hk : k ≤ A) (h1 : k < s.size) (h2 : k < F.size) :
    ((F[k].toNat : Int) != (s[k].toNat : Int)) = false := by
  have hg := Pl.fold_head s.data.toList k (fun j hj => hn.out j (by omega))
  rw [← hF.out, get_data F k h2, get_data s k h1, Option.some.injEq] at hg
  rw [hg]; simp

set_option maxHeartbeats 2000000 in
theorem walk7 (a0 : ByteArray) (w0 : a0.size ≤ maxLen) (m : Int) (w : World) (hm : w.cell? ⟨0, 0, none⟩ = some (.int .i64 m)) (h0 : 0 < w.heap.size) :
    Calls Try.prog 7 #[.string a0] w fun e w' => e = .returned (.bool true) ∧ Below w.heap.size w w' := by
  by_cases hB : a0.size ≤ 1048576
  · have hB' : decide (a0.size ≤ 1048576) = true := decide_eq_true hB
    go_enter Try.func7, Try.ntmps7
    go_wp2_with fail
    refine (bytes13 _ _ w0).mono ?_
    rintro e w' ⟨rfl, rfl⟩
    go_wp2_with fail
    refine (fold_named _ m _ (by omega) (by exact hm)).mono ?_
    rintro e w2 ⟨F, rfl, hF, hb⟩
    have hsz := F_size a0 F hF
    have s1 : F.size ≤ a0.size := by omega
    have s2 : a0.size ≤ F.size := by omega
    have s3 : ((F.size : Int) != (a0.size : Int)) = false := by rw [hsz]; simp
    have hm2 : w2.cell? ⟨0, 0, none⟩ = some (.int .i64 m) := (hb.cell (p := ⟨0, 0, none⟩) h0).trans hm
    have hs2 := hb.size
    clear hsz
    go_wp2
    go_loop [4] (fun i => ∃ k : Nat, k ≤ F.size ∧ i = .int .i64 k) (fun i => F.size - (intOf i).toNat)
    case atStart => exact ⟨0, Nat.zero_le _, rfl⟩
    case round =>
      obtain ⟨k, hk, rfl⟩ := hrel
      by_cases hlt : k < F.size
      · have hlt2 : k < a0.size := by omega
        rcases F_get a0 F hF k hlt2 hlt with g | ⟨g, g1, g2, g3⟩
        · go_wp2
          go_round
          case rel => exact ⟨k + 1, by omega, by go_num⟩
          case measure => simp [intOf]; omega
        · go_wp2
          go_round
          case rel => exact ⟨k + 1, by omega, by go_num⟩
          case measure => simp [intOf]; omega
      · go_wp2
        go_loop [7, 8] (fun t i => ∃ k : Nat, k ≤ a0.size ∧ i = .int .i64 k ∧ t = .int .i64 a0.size ∧ Hid (NoAt a0 k)) (fun _ i => a0.size - (intOf i).toNat)
        case atStart => exact ⟨0, Nat.zero_le _, rfl, rfl, (fun j hj => absurd hj (by omega) : NoAt a0 0)⟩
        case round =>
          obtain ⟨j, hj, rfl, rfl, hn⟩ := hrel
          by_cases hlt2 : j < a0.size
          · by_cases h64 : ((a0[j].toNat : Int) == 64) = true
            · go_wp2
              go_loopw [9] (fun i wr => ∃ (k nq : Nat), k ≤ F.size ∧ i = .int .i64 k ∧ wr = w2.drewN nq) (fun i _ => F.size - (intOf i).toNat)
              case atStart => exact ⟨0, 0, Nat.zero_le _, rfl, rfl⟩
              case round =>
                obtain ⟨i, nq, hi, rfl, rfl⟩ := hrel
                by_cases hia : i ≤ j
                · by_cases hif : i < F.size
                  · have hi2 : i < a0.size := by omega
                    have c1 : (i : Int) < (F.size : Int) := by omega
                    have c2 : (i : Int) < (a0.size : Int) := by omega
                    have c3 : (0 : Int) ≤ (i : Int) := by omega
                    have g := F_head a0 F hF j hn i hia hi2 hif
                    go_wp2
                    go_quiet (fail)
                    go_wp2
                    go_roundw
                    case rel => exact ⟨i + 1, _, by omega, by go_num, rfl⟩
                    case measure => simp [intOf]; omega
                  · go_wp2_with fail
                    refine (fold_again a0 F hF m _ (by omega) (by exact hm2)).mono ?_
                    rintro e w3 ⟨rfl, hb3⟩
                    go_wp2
                    go_ret
                    exact ⟨rfl, (below_draws hb _).trans (hb3.mono (by exact hs2))⟩
                · go_wp2_with fail
                  refine (fold_again a0 F hF m _ (by omega) (by exact hm2)).mono ?_
                  rintro e w3 ⟨rfl, hb3⟩
                  go_wp2
                  go_ret
                  exact ⟨rfl, (below_draws hb _).trans (hb3.mono (by exact hs2))⟩
            · rw [Bool.not_eq_true] at h64
              go_wp2
              go_round
              case rel => exact ⟨j + 1, by omega, by go_num, rfl, noAt_on a0 j hlt2 h64 hn⟩
              case measure => simp [intOf]; omega
          · go_wp2
            go_loopw [9] (fun i wr => ∃ (k nq : Nat), k ≤ F.size ∧ i = .int .i64 k ∧ wr = w2.drewN nq) (fun i _ => F.size - (intOf i).toNat)
            case atStart => exact ⟨0, 0, Nat.zero_le _, rfl, rfl⟩
            case round =>
              obtain ⟨i, nq, hi, rfl, rfl⟩ := hrel
              by_cases hia : i ≤ a0.size
              · by_cases hif : i < F.size
                · have hi2 : i < a0.size := by omega
                  have c1 : (i : Int) < (F.size : Int) := by omega
                  have c2 : (i : Int) < (a0.size : Int) := by omega
                  have c3 : (0 : Int) ≤ (i : Int) := by omega
                  have g := F_head a0 F hF a0.size (noAt_le a0 j a0.size (by omega) hn) i hia hi2 hif
                  go_wp2
                  go_quiet (fail)
                  go_wp2
                  go_roundw
                  case rel => exact ⟨i + 1, _, by omega, by go_num, rfl⟩
                  case measure => simp [intOf]; omega
                · go_wp2_with fail
                  refine (fold_again a0 F hF m _ (by omega) (by exact hm2)).mono ?_
                  rintro e w3 ⟨rfl, hb3⟩
                  go_wp2
                  go_ret
                  exact ⟨rfl, (below_draws hb _).trans (hb3.mono (by exact hs2))⟩
              · go_wp2_with fail
                refine (fold_again a0 F hF m _ (by omega) (by exact hm2)).mono ?_
                rintro e w3 ⟨rfl, hb3⟩
                go_wp2
                go_ret
                exact ⟨rfl, (below_draws hb _).trans (hb3.mono (by exact hs2))⟩
  · have hB' : decide (a0.size ≤ 1048576) = false := decide_eq_false hB
    go_enter Try.func7, Try.ntmps7
    go_wp2_with fail
    refine (bytes13 _ _ w0).mono ?_
    rintro e w' ⟨rfl, rfl⟩
    go_wp2
    go_ret
    exact ⟨rfl, Below.refl _ _⟩
end Go.Proofs.Qxb6600667a.Wk
