import Derived.Test.Qxb6001153aWalksB
namespace Go.Proofs.Qxb6001153a.Wk
open Go.RowKit
set_option linter.unusedVariables false

/-- What stripComments hands back, in three parts. -/
def scT (s : ByteArray) (o : Bool) : ByteArray := ⟨(Pl.sc s.data.toList o).1.toArray⟩
def scO (s : ByteArray) (o : Bool) : Bool := (Pl.sc s.data.toList o).2.1
def scP (s : ByteArray) (o : Bool) : Bool := (Pl.sc s.data.toList o).2.2
theorem zzstrip_any (s : ByteArray) (o : Bool) (m : Int) (w : World) (hs : s.size ≤ 4194304) (hm : w.cell? ⟨0, 0, none⟩ = some (.int .i64 m)) (h0 : 0 < w.heap.size) :
    Calls Try.prog 16 #[.string s, .bool o] w fun e w' => e = .returned (.tuple #[.string (scT s o), .bool (scO s o), .bool (scP s o)]) ∧ Below w.heap.size w w' := by
  go_enter Try.func16, Try.ntmps16
  go_wp2_with fail
  refine (strip_any _ _ m _ hs (by exact hm) (by exact h0)).mono ?_
  rintro e w' ⟨rfl, hb⟩
  go_wp2
  go_ret3
  exact ⟨rfl, hb⟩

/-! ### a line without a slash -/
theorem plain_any (s : ByteArray) (m : Int) (w : World) (hs : s.size ≤ 4194304) (hm : w.cell? ⟨0, 0, none⟩ = some (.int .i64 m)) (h0 : 0 < w.heap.size) (h : hasB 47 s.data.toList = false) :
    Calls Try.prog 16 #[.string s, .bool false] w fun e w' => e = .returned (.tuple #[.string s, .bool false, .bool false]) ∧ Below w.heap.size w w' := by
  have h1 := zzstrip_any s false m w hs hm h0
  have e := Pl.sc_noslash s.data.toList (of_decide_eq_false h)
  unfold scT scO scP at h1
  rw [e, Lib.mk_data] at h1
  exact h1

set_option maxHeartbeats 1000000 in
theorem walk6 (a0 : ByteArray) (w0 : a0.size ≤ maxLen) (m : Int) (w : World) (hm : w.cell? ⟨0, 0, none⟩ = some (.int .i64 m)) (h0 : 0 < w.heap.size) :
    Calls Try.prog 6 #[.string a0] w fun e w' => e = .returned (.bool true) ∧ Below w.heap.size w w' := by
  by_cases hB : a0.size ≤ 1048576
  · have hB' : decide (a0.size ≤ 1048576) = true := decide_eq_true hB
    by_cases h1 : hasB 47 a0.data.toList = true
    · go_enter Try.func6, Try.ntmps6
      go_wp2_with fail
      refine (bytes17 _ _ w0).mono ?_
      rintro e w' ⟨rfl, rfl⟩
      go_wp2_with fail
      refine (has_any _ 47 47 rfl _ w0).mono ?_
      rintro e w' ⟨rfl, rfl⟩
      go_wp2
      go_ret
      exact ⟨rfl, Below.refl _ _⟩
    · rw [Bool.not_eq_true] at h1
      go_enter Try.func6, Try.ntmps6
      go_wp2_with fail
      refine (bytes17 _ _ w0).mono ?_
      rintro e w' ⟨rfl, rfl⟩
      go_wp2_with fail
      refine (has_any _ 47 47 rfl _ w0).mono ?_
      rintro e w' ⟨rfl, rfl⟩
      go_wp2_with fail
      refine (plain_any _ m _ (by omega) (by exact hm) (by exact h0) h1).mono ?_
      rintro e w2 ⟨rfl, hb⟩
      go_wp2
      go_ret
      exact ⟨rfl, hb⟩
  · have hB' : decide (a0.size ≤ 1048576) = false := decide_eq_false hB
    go_enter Try.func6, Try.ntmps6
    go_wp2_with fail
    refine (bytes17 _ _ w0).mono ?_
    rintro e w' ⟨rfl, rfl⟩
    go_wp2
    go_ret
    exact ⟨rfl, Below.refl _ _⟩

/-! ### the shape -/
theorem scT_size (s : ByteArray) (o : Bool) : (scT s o).size ≤ s.size := by
  have := Pl.sc_len s.data.toList o
  rw [Lib.size_eq, Lib.size_eq]; exact this
theorem scP_O (s : ByteArray) (o : Bool) (h : scP s o = true) : scO s o = true := Pl.sc_opened _ _ h
theorem open_any (s : ByteArray) (m : Int) (w : World) (hs : s.size ≤ 4194304) (hm : w.cell? ⟨0, 0, none⟩ = some (.int .i64 m)) (h0 : 0 < w.heap.size) (h : Pl.hasCl s.data.toList = false) :
    Calls Try.prog 16 #[.string s, .bool true] w fun e w' => e = .returned (.tuple #[.string ⟨#[]⟩, .bool true, .bool false]) ∧ Below w.heap.size w w' := by
  have h1 := zzstrip_any s true m w hs hm h0
  have e := Pl.sc_noCl s.data.toList h
  unfold scT scO scP at h1
  rw [e] at h1
  exact h1

set_option maxHeartbeats 1000000 in
theorem walk7 (a0 : ByteArray) (a1 : Bool) (w0 : a0.size ≤ maxLen) (m : Int) (w : World) (hm : w.cell? ⟨0, 0, none⟩ = some (.int .i64 m)) (h0 : 0 < w.heap.size) :
    Calls Try.prog 7 #[.string a0, .bool a1] w fun e w' => e = .returned (.bool true) ∧ Below w.heap.size w w' := by
  by_cases hB : a0.size ≤ 1048576
  · have hB' : decide (a0.size ≤ 1048576) = true := decide_eq_true hB
    have ht := scT_size a0 a1
    cases a1 with
    | false =>
      go_enter Try.func7, Try.ntmps7
      go_wp2_with fail
      refine (bytes19 _ _ _ w0).mono ?_
      rintro e w' ⟨rfl, rfl⟩
      go_wp2_with fail
      refine (zzstrip_any _ _ m _ (by omega) (by exact hm) (by exact h0)).mono ?_
      rintro e w2 ⟨rfl, hb⟩
      by_cases hp : scP a0 false = true
      · have ho := scP_O a0 false hp
        go_wp2
        go_ret
        exact ⟨rfl, hb⟩
      · rw [Bool.not_eq_true] at hp
        go_wp2
        go_ret
        exact ⟨rfl, hb⟩
    | true =>
      by_cases hc : Pl.hasCl a0.data.toList = true
      · go_enter Try.func7, Try.ntmps7
        go_wp2_with fail
        refine (bytes19 _ _ _ w0).mono ?_
        rintro e w' ⟨rfl, rfl⟩
        go_wp2_with fail
        refine (zzstrip_any _ _ m _ (by omega) (by exact hm) (by exact h0)).mono ?_
        rintro e w2 ⟨rfl, hb⟩
        by_cases hp : scP a0 true = true
        · have ho := scP_O a0 true hp
          go_wp2_with fail
          refine (closer_any _ _ (by omega)).mono ?_
          rintro e w3 ⟨rfl, rfl⟩
          go_wp2
          go_ret
          exact ⟨rfl, hb⟩
        · rw [Bool.not_eq_true] at hp
          go_wp2_with fail
          refine (closer_any _ _ (by omega)).mono ?_
          rintro e w3 ⟨rfl, rfl⟩
          go_wp2
          go_ret
          exact ⟨rfl, hb⟩
      · rw [Bool.not_eq_true] at hc
        clear ht
        go_enter Try.func7, Try.ntmps7
        go_wp2_with fail
        refine (bytes19 _ _ _ w0).mono ?_
        rintro e w' ⟨rfl, rfl⟩
        go_wp2_with fail
        refine (open_any _ m _ (by omega) (by exact hm) (by exact h0) hc).mono ?_
        rintro e w2 ⟨rfl, hb⟩
        go_wp2_with fail
        refine (closer_any _ _ (by omega)).mono ?_
        rintro e w3 ⟨rfl, rfl⟩
        go_wp2
        go_ret
        exact ⟨rfl, hb⟩
  · have hB' : decide (a0.size ≤ 1048576) = false := decide_eq_false hB
    go_enter Try.func7, Try.ntmps7
    go_wp2_with fail
    refine (bytes19 _ _ _ w0).mono ?_
    rintro e w' ⟨rfl, rfl⟩
    go_wp2
    go_ret
    exact ⟨rfl, Below.refl _ _⟩
end Go.Proofs.Qxb6001153a.Wk
