import Derived.Test.Qxb6600667aWalksC
import Derived.Deep.QuietTactic
import Derived.BigQuiet
namespace Go.Proofs.Qxb6600667a.Wk
open Go.RowKit
set_option linter.unusedVariables false

theorem below_draws {B : Nat} {w wr : World} (h : Below B w wr) (k : Nat) : Below B w (wr.drewN k) := ⟨h.os, h.tape, h.output, h.size, h.block⟩
/-- The end of a split that failed. -/
def Failed3 (w : World) (e : Ending) (w' : World) : Prop := ∃ a : Addr, e = .returned (.tuple #[.string ⟨#[]⟩, .string ⟨#[]⟩, .iface 40 (.pointer (some a))]) ∧ Below w.heap.size w w'
theorem lpe_none (s : ByteArray) (h : Hid (Pl.lpl s.data.toList = none)) : Hid (Pl.lpe s.data.toList = none) := by
  show Pl.lpe s.data.toList = none
  rw [← Pl.spl_eq]; unfold Pl.spl; rw [h.out]; rfl
theorem lpe_of (s : ByteArray) (n : Nat) (h : Hid (Pl.lpl s.data.toList = some n)) : Pl.lpe s.data.toList = if (s.data.toList.drop n).head? = some 64 then some n else none := by
  rw [← Pl.spl_eq]; unfold Pl.spl; rw [h.out]; rfl
theorem lpe_end (s : ByteArray) (n : Nat) (h : Hid (Pl.lpl s.data.toList = some n)) (he : ¬ n < s.size) : Hid (Pl.lpe s.data.toList = none) := by
  show Pl.lpe s.data.toList = none
  rw [lpe_of s n h, drop_end s n he]; rfl
theorem lpe_no (s : ByteArray) (n : Nat) (h : Hid (Pl.lpl s.data.toList = some n)) (he : n < s.size) (h64 : ((s[n].toNat : Int) == 64) = false) : Hid (Pl.lpe s.data.toList = none) := by
  show Pl.lpe s.data.toList = none
  rw [lpe_of s n h, drop_get s n he, if_neg]
  intro e
  exact ne_of s[n] 64 h64 (Option.some.inj e)
theorem lpe_yes (s : ByteArray) (n : Nat) (h : Hid (Pl.lpl s.data.toList = some n)) (he : n < s.size) (h64 : ((s[n].toNat : Int) == 64) = true) : Hid (Pl.lpe s.data.toList = some n) := by
  show Pl.lpe s.data.toList = some n
  rw [lpe_of s n h, drop_get s n he, if_pos]
  rw [eq_of s[n] 64 h64]; rfl

set_option maxHeartbeats 2000000 in
theorem split_any (s : ByteArray) (m : Int) (w : World) (hs : s.size < 4294967281) (hm : w.cell? ⟨0, 0, none⟩ = some (.int .i64 m)) :
    Calls Try.prog 18 #[.string s] w fun e w' => (∃ n : Nat, Hid (Pl.lpe s.data.toList = some n) ∧ n < s.size ∧ e = .returned (.tuple #[.string (s.extract 0 n), .string (s.extract (n + 1) s.size), .nilIface]) ∧ ∃ q, w' = w.drewN q) ∨ (Hid (Pl.lpe s.data.toList = none) ∧ Failed3 w e w') := by
  go_enter Try.func18, Try.ntmps18
  go_wp2_with fail
  refine (lpl_any _ m _ hs (by exact hm)).mono ?_
  rintro e w' (⟨n, hn, hns, rfl, rfl⟩ | ⟨hn, a, rfl, hb⟩)
  · by_cases hlt : n < s.size
    · by_cases h64 : ((s[n].toNat : Int) == 64) = true
      · have h64' : ((s[n].toNat : Int) != 64) = false := by simp [bne, h64]
        have c0 : ((n : Int) == (s.size : Int)) = false := by rw [beq_eq_false_iff_ne]; omega
        have c1 : (0 : Int) ≤ (n : Int) := by omega
        have c2 : (n : Int) ≤ (s.size : Int) := by omega
        have c3 : (0 : Int) ≤ (n : Int) + 1 := by omega
        have c4 : (n : Int) + 1 ≤ (s.size : Int) := by omega
        go_wp2
        go_quiet (fail)
        go_wp2
        go_ret3
        exact Or.inl ⟨n, lpe_yes s n hn hlt h64, hlt, rfl, _, rfl⟩
      · rw [Bool.not_eq_true] at h64
        have h64' : ((s[n].toNat : Int) != 64) = true := by simp [bne, h64]
        have c0 : ((n : Int) == (s.size : Int)) = false := by rw [beq_eq_false_iff_ne]; omega
        have c2 : (n : Int) ≤ (n : Int) + 1 := by omega
        have c3 : (0 : Int) ≤ (n : Int) + 1 := by omega
        have c4 : (n : Int) + 1 ≤ (s.size : Int) := by omega
        go_wp2_with fail
        refine (errorf_any _ _ _ _ _).mono ?_
        rintro e w2 ⟨rfl, rfl⟩
        go_wp2
        go_ret3
        exact Or.inr ⟨lpe_no s n hn hlt h64, _, rfl, below2 _ _ _⟩
    · have c0 : ((n : Int) == (s.size : Int)) = true := by rw [beq_iff_eq]; omega
      go_wp2_with fail
      refine (errorf_any _ _ _ _ _).mono ?_
      rintro e w2 ⟨rfl, rfl⟩
      go_wp2
      go_ret3
      exact Or.inr ⟨lpe_end s n hn hlt, _, rfl, below1 _ _⟩
  · go_wp2
    go_ret3
    exact Or.inr ⟨lpe_none s hn, a, rfl, hb⟩
end Go.Proofs.Qxb6600667a.Wk
