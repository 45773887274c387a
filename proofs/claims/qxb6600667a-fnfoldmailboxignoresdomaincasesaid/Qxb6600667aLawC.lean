import Derived.Test.Qxb6600667aLawB
namespace Go.Proofs.Qxb6600667a.Wk
open Go.RowKit
set_option linter.unusedVariables false

set_option maxHeartbeats 400000 in
theorem bytes14 (a b : ByteArray) (w : World) (ha : a.size ≤ maxLen) (hb : b.size ≤ maxLen) :
    Calls Try.prog 14 #[.string a, .string b] w fun e w' => e = .returned (.bool (decide (a.size + b.size ≤ 1048576))) ∧ w' = w := by
  unfold maxLen at ha hb
  go_enter Try.func14, Try.ntmps14
  go_wp2
  all_goals go_ret
  all_goals exact ⟨ret_bool (by first | exact (decide_eq_false (by omega)).symm | exact (decide_eq_true (by omega)).symm), rfl⟩

/-- The address, and its folded twin. -/
theorem join_data (a d : ByteArray) : (a ++ ⟨#[64]⟩ ++ d : ByteArray).data.toList = a.data.toList ++ 64 :: d.data.toList := by simp
def FF (a d : ByteArray) : ByteArray := ⟨(a.data.toList ++ 64 :: d.data.toList.map Pl.low).toArray⟩
def swd (d : ByteArray) : ByteArray := ⟨(d.data.toList.map Pl.swp).toArray⟩
theorem FF_size (a d : ByteArray) : (FF a d).size = a.size + 1 + d.size := by
  rw [Lib.size_eq, Lib.size_eq a, Lib.size_eq d]
  show (a.data.toList ++ 64 :: d.data.toList.map Pl.low).length = _
  simp; omega
theorem swd_size (d : ByteArray) : (swd d).size = d.size := by
  rw [Lib.size_eq, Lib.size_eq d]
  show (d.data.toList.map Pl.swp).length = _
  simp
theorem swd_any (s : ByteArray) (w : World) (hs : s.size < 4294967281) :
    Calls Try.prog 16 #[.string s] w fun e w' => e = .returned (.string (swd s)) ∧ Below w.heap.size w w' := swap_any s w hs
/-- Well formed: the Local-part is all of a. -/
def Wf (a d : ByteArray) : Prop := Pl.lpe (a.data.toList ++ 64 :: d.data.toList) = some a.data.toList.length
theorem wf_of (a d : ByteArray) (h : lpI (a ++ ⟨#[64]⟩ ++ d) = (a.size : Int)) : Hid (Wf a d) := by
  show Wf a d
  unfold lpI at h
  rw [join_data] at h
  unfold Wf
  cases hl : Pl.lpe (a.data.toList ++ 64 :: d.data.toList) with
  | none => rw [hl] at h; simp at h
  | some n =>
    rw [hl] at h
    have h' : (n : Int) = (a.size : Int) := h
    have : n = a.size := by omega
    rw [this, Lib.size_eq]
theorem foldx_any (a d : ByteArray) (hw : Hid (Wf a d)) (m : Int) (w : World) (hs : a.size + 1 + d.size < 4194304) (hm : w.cell? ⟨0, 0, none⟩ = some (.int .i64 m)) :
    Calls Try.prog 11 #[.string (a ++ ⟨#[64]⟩ ++ d)] w fun e w' => e = .returned (.string (FF a d)) ∧ Below w.heap.size w w' := by
  have h := fold_any (a ++ ⟨#[64]⟩ ++ d) m w (by simp; have : (⟨#[64]⟩ : ByteArray).size = 1 := rfl; omega) hm
  rw [join_data, Pl.fold_at _ _ hw.out] at h
  exact h
theorem foldy_any (a d : ByteArray) (hw : Hid (Wf a d)) (m : Int) (w : World) (hs : a.size + 1 + d.size < 4194304) (hm : w.cell? ⟨0, 0, none⟩ = some (.int .i64 m)) :
    Calls Try.prog 11 #[.string (a ++ ⟨#[64]⟩ ++ swd d)] w fun e w' => e = .returned (.string (FF a d)) ∧ Below w.heap.size w w' := by
  have h := fold_any (a ++ ⟨#[64]⟩ ++ swd d) m w (by simp; have : (⟨#[64]⟩ : ByteArray).size = 1 := rfl; have := swd_size d; omega) hm
  have e : Pl.fold (a ++ ⟨#[64]⟩ ++ swd d).data.toList = a.data.toList ++ 64 :: d.data.toList.map Pl.low := by
    rw [join_data]
    show Pl.fold (a.data.toList ++ 64 :: d.data.toList.map Pl.swp) = _
    rw [Pl.fold_twin _ _ hw.out, Pl.fold_at _ _ hw.out]
  rw [e] at h
  exact h
theorem FF_head (a d : ByteArray) : (FF a d).extract 0 (a.size + 1) = a ++ ⟨#[64]⟩ := by
  apply bytes_ext
  rw [head_data]
  show (a.data.toList ++ 64 :: d.data.toList.map Pl.low).take (a.size + 1) = _
  have e : (a.data.toList ++ 64 :: d.data.toList.map Pl.low) = (a.data.toList ++ [64]) ++ d.data.toList.map Pl.low := by simp
  rw [e, List.take_append_of_le_length (by simp), List.take_of_length_le (by simp)]
  simp
theorem FF_low (a d : ByteArray) (k : Nat) (h : k < (FF a d).size) (hk : a.size + 1 ≤ k) : (((FF a d)[k]).toNat : Int) < 65 ∨ (65 ≤ (((FF a d)[k]).toNat : Int) ∧ 90 < (((FF a d)[k]).toNat : Int)) := by
  have hg := get_data (FF a d) k h
  have hg2 : (a.data.toList ++ 64 :: d.data.toList.map Pl.low)[k]? = some (FF a d)[k] := hg
  have e : (a.data.toList ++ 64 :: d.data.toList.map Pl.low) = (a.data.toList ++ [64]) ++ d.data.toList.map Pl.low := by simp
  rw [e, List.getElem?_append_right (by simp; omega), List.getElem?_map] at hg2
  obtain ⟨c, _, hc⟩ := Option.map_eq_some_iff.1 hg2
  have := Pl.low_up c
  rw [hc] at this
  rcases Int.lt_or_le (((FF a d)[k]).toNat : Int) 65 with h1 | h1
  · exact Or.inl h1
  · right
    refine ⟨h1, ?_⟩
    rcases Int.lt_or_le 90 (((FF a d)[k]).toNat : Int) with h2 | h2
    · exact h2
    · exact absurd ⟨le_of_int 65 _ h1, le_of_int _ 90 h2⟩ this

theorem foldx_named (a d F : ByteArray) (hF : Hid (F = FF a d)) (hw : Hid (Wf a d)) (m : Int) (w : World) (hs : a.size + 1 + d.size < 4194304) (hm : w.cell? ⟨0, 0, none⟩ = some (.int .i64 m)) :
    Calls Try.prog 11 #[.string (a ++ ⟨#[64]⟩ ++ d)] w fun e w' => e = .returned (.string F) ∧ Below w.heap.size w w' := by
  rw [hF.out]; exact foldx_any a d hw m w hs hm
theorem foldy_named (a d F : ByteArray) (hF : Hid (F = FF a d)) (hw : Hid (Wf a d)) (m : Int) (w : World) (hs : a.size + 1 + d.size < 4194304) (hm : w.cell? ⟨0, 0, none⟩ = some (.int .i64 m)) :
    Calls Try.prog 11 #[.string (a ++ ⟨#[64]⟩ ++ swd d)] w fun e w' => e = .returned (.string F) ∧ Below w.heap.size w w' := by
  rw [hF.out]; exact foldy_any a d hw m w hs hm
theorem F_low (a d F : ByteArray) (hF : Hid (F = FF a d)) (k : Nat) (h : k < F.size) (hk : a.size + 1 ≤ k) : ((F[k]).toNat : Int) < 65 ∨ (65 ≤ ((F[k]).toNat : Int) ∧ 90 < ((F[k]).toNat : Int)) := by
  have e := hF.out
  subst e
  exact FF_low a d k h hk
theorem F_headx (a d F : ByteArray) (hF : Hid (F = FF a d)) : F.extract 0 (a.size + 1) = a ++ ⟨#[64]⟩ := by rw [hF.out]; exact FF_head a d
theorem F_sizex (a d F : ByteArray) (hF : Hid (F = FF a d)) : F.size = a.size + 1 + d.size := by rw [hF.out]; exact FF_size a d

set_option maxHeartbeats 2000000 in
theorem walk8 (a0 a1 : ByteArray) (w0 : a0.size ≤ maxLen) (w1 : a1.size ≤ maxLen) (m : Int) (w : World) (hm : w.cell? ⟨0, 0, none⟩ = some (.int .i64 m)) (h0 : 0 < w.heap.size) :
    Calls Try.prog 8 #[.string a0, .string a1] w fun e w' => e = .returned (.bool true) ∧ Below w.heap.size w w' := by
  by_cases hB : a0.size + a1.size ≤ 1048576
  · have hB' : decide (a0.size + a1.size ≤ 1048576) = true := decide_eq_true hB
    have j1 : (⟨#[64]⟩ : ByteArray).size = 1 := rfl
    by_cases hx : lpI (a0 ++ ⟨#[64]⟩ ++ a1) = (a0.size : Int)
    · have hw := wf_of a0 a1 hx
      have hx' : (lpI (a0 ++ ⟨#[64]⟩ ++ a1) != (a0.size : Int)) = false := by rw [hx]; simp
      have HX : Hid ((lpI (a0 ++ ⟨#[64]⟩ ++ a1) != (a0.size : Int)) = false) := hx'
      clear hx hx'
      go_enter Try.func8, Try.ntmps8
      go_wp2_with fail
      refine (bytes14 _ _ _ w0 w1).mono ?_
      rintro e w' ⟨rfl, rfl⟩
      go_wp2_with fail
      refine (lpEnd_any _ _ (by simp; omega)).mono ?_
      rintro e w' ⟨rfl, rfl⟩
      have hx' := HX.out
      obtain ⟨F, hF⟩ : ∃ F : ByteArray, Hid (F = FF a0 a1) := ⟨_, rfl⟩
      have hfs := F_sizex a0 a1 F hF
      have HFS : Hid (F.size = a0.size + 1 + a1.size) := hfs
      clear hfs
      have hsw := swd_size a1
      have hsw1 : (swd a1).size ≤ a1.size := by omega
      clear hsw
      go_wp2_with fail
      refine (swd_any _ _ (by omega)).mono ?_
      rintro e w2 ⟨rfl, hb2⟩
      have hs2 := hb2.size
      have hm2 : w2.cell? ⟨0, 0, none⟩ = some (.int .i64 m) := (hb2.cell (p := ⟨0, 0, none⟩) h0).trans hm
      go_wp2_with fail
      refine (foldx_named a0 a1 F hF hw m _ (by omega) (by exact hm2)).mono ?_
      rintro e w3 ⟨rfl, hb3⟩
      have hs3 := hb3.size
      have hm3 : w3.cell? ⟨0, 0, none⟩ = some (.int .i64 m) := (hb3.cell (p := ⟨0, 0, none⟩) (by show 0 < _; omega)).trans hm2
      go_wp2_with fail
      refine (foldy_named a0 a1 F hF hw m _ (by omega) (by exact hm3)).mono ?_
      rintro e w4 ⟨rfl, hb4⟩
      have hbb : Below w'.heap.size w' w4 := (hb2.trans (hb3.mono hs2)).trans (hb4.mono (by omega))
      have f1 : ((F.size : Int) != (a0.size : Int) + 1 + (a1.size : Int)) = false := by rw [HFS.out]; simp
      have f2 : (0 : Int) ≤ (a0.size : Int) + 1 := by omega
      have f3 : (a0.size : Int) + 1 ≤ (F.size : Int) := by have := HFS.out; omega
      have f5 : F.size ≤ 2097154 := by have := HFS.out; omega
      have f4 : (!(F.extract 0 (a0.size + 1)).toList == (a0 ++ ⟨#[64]⟩).toList) = false := by rw [F_headx a0 a1 F hF]; simp
      go_wp2
      go_loop [9] (fun i => ∃ k : Nat, a0.size + 1 ≤ k ∧ k ≤ F.size ∧ i = .int .i64 k) (fun i => F.size - (intOf i).toNat)
      case atStart => exact ⟨a0.size + 1, Nat.le_refl _, by omega, by go_num⟩
      case round =>
        obtain ⟨k, hk1, hk, rfl⟩ := hrel
        by_cases hlt : k < F.size
        · rcases F_low a0 a1 F hF k hlt hk1 with g | ⟨g1, g2⟩
          · go_wp2
            go_round
            case rel => exact ⟨k + 1, by omega, by omega, by go_num⟩
            case measure => simp [intOf]; omega
          · go_wp2
            go_round
            case rel => exact ⟨k + 1, by omega, by omega, by go_num⟩
            case measure => simp [intOf]; omega
        · go_wp2
          go_ret
          exact ⟨rfl, hbb⟩
    · have hx' : (lpI (a0 ++ ⟨#[64]⟩ ++ a1) != (a0.size : Int)) = true := by rw [bne_iff_ne]; exact hx
      have HX : Hid ((lpI (a0 ++ ⟨#[64]⟩ ++ a1) != (a0.size : Int)) = true) := hx'
      clear hx hx'
      go_enter Try.func8, Try.ntmps8
      go_wp2_with fail
      refine (bytes14 _ _ _ w0 w1).mono ?_
      rintro e w' ⟨rfl, rfl⟩
      go_wp2_with fail
      refine (lpEnd_any _ _ (by simp; omega)).mono ?_
      rintro e w' ⟨rfl, rfl⟩
      have hx' := HX.out
      go_wp2
      go_ret
      exact ⟨rfl, Below.refl _ _⟩
  · have hB' : decide (a0.size + a1.size ≤ 1048576) = false := decide_eq_false hB
    go_enter Try.func8, Try.ntmps8
    go_wp2_with fail
    refine (bytes14 _ _ _ w0 w1).mono ?_
    rintro e w' ⟨rfl, rfl⟩
    go_wp2
    go_ret
    exact ⟨rfl, Below.refl _ _⟩
end Go.Proofs.Qxb6600667a.Wk
