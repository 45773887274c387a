import Derived.Test.Qxb6600667aWalksF
namespace Go.Proofs.Qxb6600667a.Wk
open Go.RowKit
set_option linter.unusedVariables false

theorem fold_none (s : ByteArray) (h : Hid (Pl.lpe s.data.toList = none)) : s = ⟨(Pl.fold s.data.toList).toArray⟩ := by
  have e : Pl.fold s.data.toList = s.data.toList := by unfold Pl.fold; rw [h.out]
  rw [e]
theorem dom_data (s : ByteArray) (n : Nat) : (s.extract n s.size).data.toList = s.data.toList.drop n := by
  rw [Lib.extract_eq]
  show List.take (s.size - n) (s.data.toList.drop n) = _
  exact List.take_of_length_le (by simp)
theorem head_data (s : ByteArray) (n : Nat) : (s.extract 0 n).data.toList = s.data.toList.take n := by
  rw [Lib.extract_eq]
  show List.take (n - 0) (List.drop 0 s.data.toList) = _
  rw [Nat.sub_zero, List.drop_zero]
theorem bytes_ext (a b : ByteArray) (h : a.data.toList = b.data.toList) : a = b := by rw [← Lib.mk_data a, h, Lib.mk_data]
theorem fold_some (s : ByteArray) (n : Nat) (h : Hid (Pl.lpe s.data.toList = some n)) (d : List UInt8) (hd : d = (s.extract (n + 1) s.size).data.toList.map Pl.low) : s.extract 0 n ++ ⟨#[64]⟩ ++ ⟨d.toArray⟩ = ⟨(Pl.fold s.data.toList).toArray⟩ := by
  apply bytes_ext
  have h64 := (Pl.lpe_pre s.data.toList n [] h.out).1
  have hf : Pl.fold s.data.toList = Pl.foldAt n s.data.toList := by unfold Pl.fold; rw [h.out]
  have ht : s.data.toList.take (n + 1) = s.data.toList.take n ++ [64] := by
    have hn := (List.getElem?_eq_some_iff.1 h64)
    rw [List.take_succ_eq_append_getElem hn.1, hn.2]
  have e1 : (s.extract 0 n ++ ⟨#[64]⟩ ++ ⟨d.toArray⟩ : ByteArray).data.toList = (s.extract 0 n).data.toList ++ [64] ++ d := by simp
  rw [e1, head_data, hd, dom_data, hf]
  unfold Pl.foldAt
  rw [ht]

set_option maxHeartbeats 2000000 in
theorem fold_any (s : ByteArray) (m : Int) (w : World) (hs : s.size < 4194304) (hm : w.cell? ⟨0, 0, none⟩ = some (.int .i64 m)) :
    Calls Try.prog 11 #[.string s] w fun e w' => e = .returned (.string ⟨(Pl.fold s.data.toList).toArray⟩) ∧ Below w.heap.size w w' := by
  go_enter Try.func11, Try.ntmps11
  go_wp2_with fail
  refine (split_any _ m _ (by omega) (by exact hm)).mono ?_
  rintro e w' (⟨n, hn, hns, rfl, q, rfl⟩ | ⟨hn, a, rfl, hb⟩)
  · obtain ⟨d, hd⟩ : ∃ d : ByteArray, d = s.extract (n + 1) s.size := ⟨_, rfl⟩
    have hds : d.size ≤ s.size := by rw [hd]; simp
    have hls : (s.extract 0 n).size = n := by simp; omega
    have HD : Hid (d = s.extract (n + 1) s.size) := hd
    rw [← hd]
    clear hd
    obtain ⟨cap, w1, hconv, hrow, hb, hlt⟩ := row_conv (w.drewN q) d
    have hb1 : Below w.heap.size w w1 := (below_draws (Below.refl _ w) q).trans hb
    have hrow1 : RowAt w1 w.heap.size d.data.toList := hrow
    clear hrow hb hlt
    go_wp2
    go_loopw [22] (fun i wr => ∃ k : Nat, k ≤ d.size ∧ i = .int .i64 k ∧ RowAt wr w.heap.size (mapTo Pl.low 0 k d.data.toList) ∧ Below w.heap.size w wr) (fun i _ => d.size - (intOf i).toNat)
    case atStart => exact ⟨0, Nat.zero_le _, rfl, by rw [mapTo_start _ _ _ _ (Nat.le_refl _)]; exact hrow1, hb1⟩
    case round =>
      obtain ⟨k, hk, rfl, hrow, hb⟩ := hrel
      by_cases hk : k < d.size
      · obtain ⟨hc, hf⟩ := hrow k d[k] (by rw [mapTo_get, get_data d k hk]; simp)
        by_cases hl : 65 ≤ (d[k].toNat : Int) ∧ (d[k].toNat : Int) ≤ 90
        · have HL : Hid (65 ≤ (d[k].toNat : Int) ∧ (d[k].toNat : Int) ≤ 90) := hl
          go_wp2
          go_roundw
          case rel => exact ⟨k + 1, by omega, by go_num, row_step hrow (get_data d k hk) (Nat.zero_le _) (low_add d[k] HL.out), hb.setCell (by exact Nat.le_refl _) _⟩
          case measure => simp [intOf]; omega
        · have HL : Hid (¬ (65 ≤ (d[k].toNat : Int) ∧ (d[k].toNat : Int) ≤ 90)) := hl
          go_wp2
          all_goals
            go_roundw
            case rel => exact ⟨k + 1, by omega, by go_num, by rw [← mapTo_skip _ _ _ _ d[k] (get_data d k hk) (low_id d[k] HL.out)]; exact hrow, hb⟩
            case measure => simp [intOf]; omega
      · have hback := row_back wr w.heap.size d.size cap _ hrow (by rw [mapTo_length, ← Lib.size_eq])
        have hml : (mapTo Pl.low 0 k d.data.toList).length ≤ 4194304 := by rw [mapTo_length, ← Lib.size_eq]; omega
        go_wp2
        go_ret
        exact ⟨ret_str (fold_some s n hn _ (by rw [mapTo_end _ _ _ _ (by rw [← Lib.size_eq]; omega), HD.out]; rfl)), hb⟩
  · go_wp2
    go_ret
    exact ⟨ret_str (fold_none s hn), hb⟩
end Go.Proofs.Qxb6600667a.Wk
