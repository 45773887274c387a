import Derived.Test.Qxb6000862aWalksB
namespace Go.Proofs.Qxb6000862a.Wk
open Go.RowKit
set_option linter.unusedVariables false

theorem below_draws {B : Nat} {w wr : World} (h : Below B w wr) (k : Nat) : Below B w (wr.drewN k) := ⟨h.os, h.tape, h.output, h.size, h.block⟩
theorem builder_draws {T e : TypeId} {B b : Nat} {bs : List Value} {w : World} (h : Lib.IsBuilderF T e B b bs w) (k : Nat) : Lib.IsBuilderF T e B b bs (w.drewN k) := h
theorem str_size (a b : ByteArray) : (a ++ b).size = a.size + b.size := by simp
theorem str_data (a b : ByteArray) : (a ++ b).data.toList = a.data.toList ++ b.data.toList := by simp
theorem beq_of (a b : List UInt8) (h : (!a == b) = false) : a = b := by
  cases hx : (a == b) with
  | true => exact eq_of_beq hx
  | false => rw [hx] at h; cases h
theorem acc_no (n r : ByteArray) (acc X : List UInt8) (he : (!r.toList.isEmpty) = true) (h2 : (!(bef 1 (bef 2 r)).toList == n.toList) = false)
    (h : Hid (acc ++ (Pl.segs r.data.toList).flatMap (Pl.emit n.data.toList) = X)) : Hid (acc ++ (Pl.segs (aft 2 r).data.toList).flatMap (Pl.emit n.data.toList) = X) := by
  show _ = X
  rw [Lib.toList_data, Lib.toList_data] at h2
  have h2' : (Pl.cut1 1 (Pl.cut1 2 r.data.toList).1).1 = n.data.toList := beq_of _ _ h2
  rw [← h.out, Pl.segs_cut r.data.toList (ne_nil r he), List.flatMap_cons]
  have e : Pl.emit n.data.toList (Pl.cut1 2 r.data.toList).1 = [] := by unfold Pl.emit; rw [if_pos h2']
  rw [e]; rfl
theorem acc_yes (n r : ByteArray) (acc X : List UInt8) (he : (!r.toList.isEmpty) = true) (h2 : (!(bef 1 (bef 2 r)).toList == n.toList) = true)
    (h : Hid (acc ++ (Pl.segs r.data.toList).flatMap (Pl.emit n.data.toList) = X)) : Hid ((acc ++ (bef 2 r ++ ⟨#[2]⟩).data.toList) ++ (Pl.segs (aft 2 r).data.toList).flatMap (Pl.emit n.data.toList) = X) := by
  show _ = X
  rw [Lib.toList_data, Lib.toList_data] at h2
  have h2' : ¬ (Pl.cut1 1 (Pl.cut1 2 r.data.toList).1).1 = n.data.toList := by
    intro e
    have e' : (bef 1 (bef 2 r)).data.toList = n.data.toList := e
    rw [e'] at h2; simp at h2
  rw [← h.out, Pl.segs_cut r.data.toList (ne_nil r he), List.flatMap_cons, str_data]
  have e : Pl.emit n.data.toList (Pl.cut1 2 r.data.toList).1 = (bef 2 r).data.toList ++ [2] := by unfold Pl.emit; rw [if_neg h2']; rfl
  rw [e]
  simp [aft_data]
theorem acc_len (n p r : ByteArray) (acc : List UInt8) (h : Hid (acc ++ (Pl.segs r.data.toList).flatMap (Pl.emit n.data.toList) = (Pl.segs p.data.toList).flatMap (Pl.emit n.data.toList))) : acc.length ≤ 2 * p.size := by
  have h1 := Pl.emits_le n.data.toList p.data.toList.length p.data.toList (Nat.le_refl _)
  rw [← h.out, ← Lib.size_eq, List.length_append] at h1
  omega
theorem acc_end (n p r v : ByteArray) (acc : List UInt8) (he : (!r.toList.isEmpty) = false) (h : Hid (acc ++ (Pl.segs r.data.toList).flatMap (Pl.emit n.data.toList) = (Pl.segs p.data.toList).flatMap (Pl.emit n.data.toList))) :
    (⟨(acc ++ (n.data.toList ++ 1 :: (v.data.toList ++ [2]))).toArray⟩ : ByteArray) = ⟨(Pl.withP p.data.toList n.data.toList v.data.toList).toArray⟩ := by
  unfold Pl.withP
  rw [← h.out, nil_of r he]
  simp [Pl.segs]

set_option maxHeartbeats 1000000 in
theorem with_any (p n v : ByteArray) (m : Int) (w : World) (hp : p.size ≤ 1048576) (hn : n.size ≤ 1048576) (hvs : v.size ≤ 1048576) (hm : w.cell? ⟨0, 0, none⟩ = some (.int .i64 m)) (h0 : 0 < w.heap.size) :
    Calls Try.prog 21 #[.string p, .string n, .string v] w fun e w' => e = .returned (.string ⟨(Pl.withP p.data.toList n.data.toList v.data.toList).toArray⟩) ∧ Below w.heap.size w w' := by
  go_enter Try.func21, Try.ntmps21
  go_wp2
  go_loopw [0] (fun t wr => ∃ (r : ByteArray) (acc : List UInt8), t = .string r ∧ Lib.IsBuilderF 43 5 w.heap.size w.heap.size (Lib.byteCells acc) wr ∧ Below w.heap.size w wr ∧ w.heap.size < wr.heap.size ∧ r.size ≤ p.size ∧ Hid (acc ++ (Pl.segs r.data.toList).flatMap (Pl.emit n.data.toList) = (Pl.segs p.data.toList).flatMap (Pl.emit n.data.toList))) (fun t _ => strLen t)
  case atStart => exact ⟨p, [], rfl, Lib.IsBuilderF.of (Lib.fresh_isBuilder 43 5 w), (Below.refl _ w).alloc (Nat.le_refl _) _, by simp, Nat.le_refl _, rfl⟩
  case round =>
    obtain ⟨r, acc, rfl, hI, hb, hsz, hr, hacc⟩ := hrel
    have hm' : wr.cell? ⟨0, 0, none⟩ = some (.int .i64 m) := (hb.cell (p := ⟨0, 0, none⟩) h0).trans hm
    by_cases he : (!r.toList.isEmpty) = true
    · have b1 := bef_size 2 r
      have b3 := aft_lt 2 r he
      go_wp2_with fail
      refine (cut_any _ _ m _ (by omega) (by exact hm')).mono ?_
      rintro e w' ⟨rfl, k1, rfl⟩
      go_wp2_with fail
      refine (cut_any _ _ m _ (by omega) (by exact hm')).mono ?_
      rintro e w' ⟨rfl, k2, rfl⟩
      have bl := acc_len n p r acc hacc
      go_wp2_with fail
      · refine (Try.Builder_WriteString_k w.heap.size w.heap.size _ _ _ (by exact builder_draws hI _) (by rw [Lib.byteCells_length, str_size]; have : (⟨#[2]⟩ : ByteArray).size = 1 := rfl; omega) (by exact Nat.le_of_lt hsz)).mono ?_
        rintro e w1 ⟨rfl, hI1, hb1, hk1⟩
        go_wp2
        go_roundw
        case rel =>
          refine ⟨_, acc ++ (bef 2 r ++ ⟨#[2]⟩).data.toList, rfl, ?_, (below_draws hb _).trans hb1, by have := hb1.size; simp at this; omega, by omega, acc_yes n r acc _ he ‹_› hacc⟩
          rw [Lib.byteCells_append]
          exact Or.inr hI1
        case measure => exact b3
      · go_roundw
        case rel => exact ⟨_, acc, rfl, builder_draws hI _, below_draws hb _, hsz, by omega, acc_no n r acc _ he ‹_› hacc⟩
        case measure => exact b3
    · rw [Bool.not_eq_true] at he
      have bl := acc_len n p r acc hacc
      go_wp2_with fail
      refine (Try.Builder_WriteString_k w.heap.size w.heap.size _ _ _ (by exact hI) (by rw [Lib.byteCells_length, str_size, str_size, str_size]; have : (⟨#[2]⟩ : ByteArray).size = 1 := rfl; have : (⟨#[1]⟩ : ByteArray).size = 1 := rfl; omega) (by exact Nat.le_of_lt hsz)).mono ?_
      rintro e w1 ⟨rfl, hI1, hb1, hk1⟩
      have hI2 : Lib.IsBuilderF 43 5 w.heap.size w.heap.size (Lib.byteCells (acc ++ (n ++ ⟨#[1]⟩ ++ v ++ ⟨#[2]⟩ : ByteArray).data.toList)) w1 := by
        rw [Lib.byteCells_append]
        exact Or.inr hI1
      have hs1 := hb1.size
      go_wp2_with fail
      refine (Try.Builder_String_any_k w.heap.size w.heap.size _ _ (by exact hI2) (by omega)).mono ?_
      rintro e w2 ⟨rfl, _, hb2, _⟩
      go_wp2
      go_ret
      exact ⟨ret_str (acc_end n p r v acc he hacc), (hb.trans hb1).trans hb2⟩
end Go.Proofs.Qxb6000862a.Wk
