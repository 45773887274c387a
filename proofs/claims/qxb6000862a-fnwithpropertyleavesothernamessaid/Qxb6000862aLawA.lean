import Derived.Test.Qxb6000862aWalksC
namespace Go.Proofs.Qxb6000862a.Wk
open Go.RowKit
set_option linter.unusedVariables false

theorem with_size (p n v : ByteArray) : (⟨(Pl.withP p.data.toList n.data.toList v.data.toList).toArray⟩ : ByteArray).size ≤ 2 * p.size + n.size + v.size + 2 := by
  have h := Pl.withP_le p.data.toList n.data.toList v.data.toList
  rw [Lib.size_eq]
  rw [Lib.size_eq p, Lib.size_eq n, Lib.size_eq v]
  exact h

/-- LAW 1 at the call. -/
theorem back_any (p n v : ByteArray) (m : Int) (w : World) (hs : (⟨(Pl.withP p.data.toList n.data.toList v.data.toList).toArray⟩ : ByteArray).size < 4294967281) (hm : w.cell? ⟨0, 0, none⟩ = some (.int .i64 m))
    (h1 : hasB 1 n.data.toList = false) (h2 : hasB 2 n.data.toList = false) (h3 : hasB 1 v.data.toList = false) (h4 : hasB 2 v.data.toList = false) :
    Calls Try.prog 20 #[.string ⟨(Pl.withP p.data.toList n.data.toList v.data.toList).toArray⟩, .string n] w fun e w' => e = .returned (.string v) ∧ ∃ nq, w' = w.drewN nq := by
  have h := property_any ⟨(Pl.withP p.data.toList n.data.toList v.data.toList).toArray⟩ n m w hs hm
  have e : Pl.prop (⟨(Pl.withP p.data.toList n.data.toList v.data.toList).toArray⟩ : ByteArray).data.toList n.data.toList = v.data.toList :=
    Pl.reads_back _ _ _ (of_decide_eq_false h1) (of_decide_eq_false h2) (of_decide_eq_false h3) (of_decide_eq_false h4)
  rw [e, Lib.mk_data] at h
  exact h

set_option maxHeartbeats 1000000 in
theorem walk6 (a0 a1 a2 : ByteArray) (w0 : a0.size ≤ maxLen) (w1 : a1.size ≤ maxLen) (w2 : a2.size ≤ maxLen) (m : Int) (w : World) (hm : w.cell? ⟨0, 0, none⟩ = some (.int .i64 m)) (h0 : 0 < w.heap.size) :
    Calls Try.prog 6 #[.string a0, .string a1, .string a2] w fun e w' => e = .returned (.bool true) ∧ Below w.heap.size w w' := by
  by_cases hB : a0.size + a1.size + a2.size ≤ 1048576
  · have hB' : decide (a0.size + a1.size + a2.size ≤ 1048576) = true := decide_eq_true hB
    go_enter Try.func6, Try.ntmps6
    go_wp2_with fail
    refine (bytes18 _ _ _ _ w0 w1 w2).mono ?_
    rintro e w' ⟨rfl, rfl⟩
    by_cases hS : a0.size ≤ 262144 ∧ a1.size ≤ 262144 ∧ a2.size ≤ 262144
    · obtain ⟨s0, s1, s2⟩ := hS
      by_cases h1 : hasB 1 a1.data.toList = true
      · go_wp2_with fail
        refine (has_any _ 1 1 rfl _ w1).mono ?_
        rintro e w' ⟨rfl, rfl⟩
        go_wp2
        go_ret
        exact ⟨rfl, Below.refl _ _⟩
      · rw [Bool.not_eq_true] at h1
        by_cases h2 : hasB 2 a1.data.toList = true
        · go_wp2_with fail
          refine (has_any _ 1 1 rfl _ w1).mono ?_
          rintro e w' ⟨rfl, rfl⟩
          go_wp2_with fail
          refine (has_any _ 2 2 rfl _ w1).mono ?_
          rintro e w' ⟨rfl, rfl⟩
          go_wp2
          go_ret
          exact ⟨rfl, Below.refl _ _⟩
        · rw [Bool.not_eq_true] at h2
          by_cases h3 : hasB 1 a2.data.toList = true
          · go_wp2_with fail
            refine (has_any _ 1 1 rfl _ w1).mono ?_
            rintro e w' ⟨rfl, rfl⟩
            go_wp2_with fail
            refine (has_any _ 2 2 rfl _ w1).mono ?_
            rintro e w' ⟨rfl, rfl⟩
            go_wp2_with fail
            refine (has_any _ 1 1 rfl _ w2).mono ?_
            rintro e w' ⟨rfl, rfl⟩
            go_wp2
            go_ret
            exact ⟨rfl, Below.refl _ _⟩
          · rw [Bool.not_eq_true] at h3
            by_cases h4 : hasB 2 a2.data.toList = true
            · go_wp2_with fail
              refine (has_any _ 1 1 rfl _ w1).mono ?_
              rintro e w' ⟨rfl, rfl⟩
              go_wp2_with fail
              refine (has_any _ 2 2 rfl _ w1).mono ?_
              rintro e w' ⟨rfl, rfl⟩
              go_wp2_with fail
              refine (has_any _ 1 1 rfl _ w2).mono ?_
              rintro e w' ⟨rfl, rfl⟩
              go_wp2_with fail
              refine (has_any _ 2 2 rfl _ w2).mono ?_
              rintro e w' ⟨rfl, rfl⟩
              go_wp2
              go_ret
              exact ⟨rfl, Below.refl _ _⟩
            · rw [Bool.not_eq_true] at h4
              go_wp2_with fail
              refine (has_any _ 1 1 rfl _ w1).mono ?_
              rintro e w' ⟨rfl, rfl⟩
              go_wp2_with fail
              refine (has_any _ 2 2 rfl _ w1).mono ?_
              rintro e w' ⟨rfl, rfl⟩
              go_wp2_with fail
              refine (has_any _ 1 1 rfl _ w2).mono ?_
              rintro e w' ⟨rfl, rfl⟩
              go_wp2_with fail
              refine (has_any _ 2 2 rfl _ w2).mono ?_
              rintro e w' ⟨rfl, rfl⟩
              have bs := with_size a0 a1 a2
              go_wp2_with fail
              refine (with_any _ _ _ m _ (by omega) (by omega) (by omega) (by exact hm) (by exact h0)).mono ?_
              rintro e w3 ⟨rfl, hb⟩
              go_wp2_with fail
              refine (back_any _ _ _ m _ (by omega) (by exact (hb.cell (p := ⟨0, 0, none⟩) h0).trans hm) h1 h2 h3 h4).mono ?_
              rintro e w4 ⟨rfl, nq, rfl⟩
              go_wp2
              go_ret
              exact ⟨rfl, below_draws hb _⟩
    · go_wp2
      all_goals (first | omega | (go_ret; exact ⟨rfl, Below.refl _ _⟩))
  · have hB' : decide (a0.size + a1.size + a2.size ≤ 1048576) = false := decide_eq_false hB
    go_enter Try.func6, Try.ntmps6
    go_wp2_with (go_at_call 18; refine (bytes18 _ _ _ _ w0 w1 w2).mono ?_; rintro e w' ⟨rfl, rfl⟩)
    go_ret
    exact ⟨rfl, Below.refl _ _⟩
end Go.Proofs.Qxb6000862a.Wk
