import Derived.Test.Qxb6001153aLawA
namespace Go.Proofs.Qxb6001153a.Wk
open Go.RowKit
set_option linter.unusedVariables false

def ql (q : ByteArray) : Nat := Pl.qlen q.data.toList
def qd (q : ByteArray) : Bool := Pl.qclosed q.data.toList
theorem ql_le (q : ByteArray) : ql q ≤ q.size := by
  have := Pl.qlen_le q.data.toList
  rw [Lib.size_eq]; exact this
theorem head34 (q : ByteArray) (h : 0 < q.size) (hq : ((q[0].toNat : Int) == 34) = true) : q.data.toList = 34 :: q.data.toList.drop 1 := by
  have := drop_get q 0 h
  rw [List.drop_zero, eq_of q[0] 34 hq] at this
  exact this
theorem ql_any (s : ByteArray) (w : World) (hs : s.size < 9223372036854775000) :
    Calls Try.prog 13 #[.string s] w fun e w' => e = .returned (.tuple #[.int .i64 (ql s), .bool (qd s)]) ∧ w' = w := zzquoted_any s w hs
theorem unclosed_any (q : ByteArray) (m : Int) (w : World) (hs : q.size ≤ 4194304) (hm : w.cell? ⟨0, 0, none⟩ = some (.int .i64 m)) (h0 : 0 < w.heap.size)
    (hp : 0 < q.size) (hq : ((q[0].toNat : Int) == 34) = true) (hc : qd q = false) :
    Calls Try.prog 16 #[.string q, .bool false] w fun e w' => e = .returned (.tuple #[.string q, .bool false, .bool false]) ∧ Below w.heap.size w w' := by
  have h1 := zzstrip_any q false m w hs hm h0
  have hh := head34 q hp hq
  have e : Pl.sc q.data.toList false = (q.data.toList, false, false) := by
    unfold qd at hc
    rw [hh] at hc ⊢
    exact Pl.sc_unclosed _ hc
  unfold scT scO scP at h1
  rw [e, Lib.mk_data] at h1
  exact h1
theorem closed_any (q r : ByteArray) (m : Int) (w : World) (hs : q.size + r.size ≤ 4194304) (hm : w.cell? ⟨0, 0, none⟩ = some (.int .i64 m)) (h0 : 0 < w.heap.size)
    (hp : 0 < q.size) (hq : ((q[0].toNat : Int) == 34) = true) (hc : qd q = true) :
    Calls Try.prog 16 #[.string (q.extract 0 (ql q) ++ r), .bool false] w fun e w' => e = .returned (.tuple #[.string (q.extract 0 (ql q) ++ scT r false), .bool (scO r false), .bool (scP r false)]) ∧ Below w.heap.size w w' := by
  have h1 := zzstrip_any (q.extract 0 (ql q) ++ r) false m w (by simp; omega) hm h0
  have hh := head34 q hp hq
  have ed : (q.extract 0 (ql q) ++ r).data.toList = q.data.toList.take (ql q) ++ r.data.toList := by
    rw [show (q.extract 0 (ql q) ++ r).data.toList = (q.extract 0 (ql q)).data.toList ++ r.data.toList by simp, Lib.extract_eq]
    rfl
  have e : Pl.sc (q.extract 0 (ql q) ++ r).data.toList false = (q.data.toList.take (ql q) ++ (Pl.sc r.data.toList false).1, (Pl.sc r.data.toList false).2) := by
    rw [ed]
    unfold qd at hc
    unfold ql
    rw [hh] at hc ⊢
    exact Pl.sc_closed _ _ hc
  have et : scT (q.extract 0 (ql q) ++ r) false = q.extract 0 (ql q) ++ scT r false := by
    unfold scT
    rw [e, Lib.extract_eq]
    show (⟨(List.take (ql q) q.data.toList ++ (Pl.sc r.data.toList false).1).toArray⟩ : ByteArray) = ⟨(List.take (ql q) q.data.toList).toArray⟩ ++ ⟨(Pl.sc r.data.toList false).1.toArray⟩
    apply ByteArray.ext
    simp
  have eo : scO (q.extract 0 (ql q) ++ r) false = scO r false := by unfold scO; rw [e]
  have ep : scP (q.extract 0 (ql q) ++ r) false = scP r false := by unfold scP; rw [e]
  rw [et, eo, ep] at h1
  exact h1

set_option maxHeartbeats 1000000 in
theorem walk5 (a0 a1 : ByteArray) (w0 : a0.size ≤ maxLen) (w1 : a1.size ≤ maxLen) (m : Int) (w : World) (hm : w.cell? ⟨0, 0, none⟩ = some (.int .i64 m)) (h0 : 0 < w.heap.size) :
    Calls Try.prog 5 #[.string a0, .string a1] w fun e w' => e = .returned (.bool true) ∧ Below w.heap.size w w' := by
  by_cases hB : a0.size + a1.size ≤ 1048576
  · have hB' : decide (a0.size + a1.size ≤ 1048576) = true := decide_eq_true hB
    by_cases hp : 0 < a0.size
    · have hz : ((a0.size : Int) == 0) = false := by rw [beq_eq_false_iff_ne]; omega
      by_cases hq : ((a0[0].toNat : Int) == 34) = true
      · have hl := ql_le a0
        have hq' : ((a0[0].toNat : Int) != 34) = false := by simp [bne, hq]
        by_cases hc : qd a0 = true
        · go_enter Try.func5, Try.ntmps5
          go_wp2_with fail
          refine (bytes15 _ _ _ w0 w1).mono ?_
          rintro e w' ⟨rfl, rfl⟩
          go_wp2_with fail
          refine (ql_any _ _ (by omega)).mono ?_
          rintro e w' ⟨rfl, rfl⟩
          have c1 : (0 : Int) ≤ (ql a0 : Int) := by omega
          have c2 : (ql a0 : Int) ≤ (a0.size : Int) := by omega
          go_wp2_with fail
          refine (closed_any _ _ m _ (by omega) (by exact hm) (by exact h0) hp hq hc).mono ?_
          rintro e w2 ⟨rfl, hb⟩
          have hs2 := hb.size
          go_wp2_with fail
          refine (zzstrip_any _ _ m _ (by omega) (by exact (hb.cell (p := ⟨0, 0, none⟩) h0).trans hm) (by omega)).mono ?_
          rintro e w3 ⟨rfl, hb2⟩
          have ht := scT_size a1 false
          go_wp2
          go_ret
          exact ⟨rfl, hb.trans (hb2.mono hs2)⟩
        · rw [Bool.not_eq_true] at hc
          go_enter Try.func5, Try.ntmps5
          go_wp2_with fail
          refine (bytes15 _ _ _ w0 w1).mono ?_
          rintro e w' ⟨rfl, rfl⟩
          go_wp2_with fail
          refine (ql_any _ _ (by omega)).mono ?_
          rintro e w' ⟨rfl, rfl⟩
          go_wp2_with fail
          refine (unclosed_any _ m _ (by omega) (by exact hm) (by exact h0) hp hq hc).mono ?_
          rintro e w2 ⟨rfl, hb⟩
          go_wp2
          go_ret
          exact ⟨rfl, hb⟩
      · rw [Bool.not_eq_true] at hq
        have hq' : ((a0[0].toNat : Int) != 34) = true := by simp [bne, hq]
        go_enter Try.func5, Try.ntmps5
        go_wp2_with fail
        refine (bytes15 _ _ _ w0 w1).mono ?_
        rintro e w' ⟨rfl, rfl⟩
        go_wp2
        go_ret
        exact ⟨rfl, Below.refl _ _⟩
    · have hz : ((a0.size : Int) == 0) = true := by rw [beq_iff_eq]; omega
      go_enter Try.func5, Try.ntmps5
      go_wp2_with fail
      refine (bytes15 _ _ _ w0 w1).mono ?_
      rintro e w' ⟨rfl, rfl⟩
      go_wp2
      go_ret
      exact ⟨rfl, Below.refl _ _⟩
  · have hB' : decide (a0.size + a1.size ≤ 1048576) = false := decide_eq_false hB
    go_enter Try.func5, Try.ntmps5
    go_wp2_with fail
    refine (bytes15 _ _ _ w0 w1).mono ?_
    rintro e w' ⟨rfl, rfl⟩
    go_wp2
    go_ret
    exact ⟨rfl, Below.refl _ _⟩
end Go.Proofs.Qxb6001153a.Wk
