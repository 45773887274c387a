import Derived.Test.Qxb6000862aWalks
import Derived.Test.Qxb6000862aShelf
import Derived.Test.Qxb6000862aPlain
import Derived.WalkSpells
import Derived.Deep.Draws
namespace Go.Proofs.Qxb6000862a.Wk
open Go.RowKit
set_option linter.unusedVariables false

/-- The text's length in a slot: for a loop's measure. -/
def strLen : Value → Nat | .string s => s.size | _ => 0

/-- What Cut hands back at a separator of one byte. -/
def bef (c : UInt8) (s : ByteArray) : ByteArray := ⟨(Pl.cut1 c s.data.toList).1.toArray⟩
def aft (c : UInt8) (s : ByteArray) : ByteArray := ⟨(Pl.cut1 c s.data.toList).2.1.toArray⟩
def fnd (c : UInt8) (s : ByteArray) : Bool := (Pl.cut1 c s.data.toList).2.2
theorem bef_data (c : UInt8) (s : ByteArray) : (bef c s).data.toList = (Pl.cut1 c s.data.toList).1 := rfl
theorem aft_data (c : UInt8) (s : ByteArray) : (aft c s).data.toList = (Pl.cut1 c s.data.toList).2.1 := rfl
theorem bef_size (c : UInt8) (s : ByteArray) : (bef c s).size ≤ s.size := by
  have := Pl.cut1_length c s.data.toList
  rw [Lib.size_eq, Lib.size_eq, bef_data]; omega
theorem aft_size (c : UInt8) (s : ByteArray) : (aft c s).size ≤ s.size := by
  have := Pl.cut1_length c s.data.toList
  rw [Lib.size_eq, Lib.size_eq, aft_data]; omega
theorem aft_lt (c : UInt8) (s : ByteArray) (h : (!s.toList.isEmpty) = true) : (aft c s).size < s.size := by
  rw [Lib.toList_data] at h
  have := Pl.cut1_rest_lt c s.data.toList (by intro e; rw [e] at h; simp at h)
  rw [Lib.size_eq, Lib.size_eq, aft_data]; omega
theorem str_eq (a b : ByteArray) (h : a.data.toList = b.data.toList) : a = b := by
  rw [← Lib.mk_data a, h, Lib.mk_data]

theorem cut_any (s : ByteArray) (c : UInt8) (m : Int) (w : World) (hs : s.size < 4294967281) (hm : w.cell? ⟨0, 0, none⟩ = some (.int .i64 m)) :
    Calls Try.prog 26 #[.string s, .string ⟨#[c]⟩] w fun e w' => e = .returned (.tuple #[.string (bef c s), .string (aft c s), .bool (fnd c s)]) ∧ ∃ k, w' = w.drewN k := by
  have h := Try.strings_Cut s ⟨#[c]⟩ m w hs hm
  have e : Lib.cut s.data.toList (⟨#[c]⟩ : ByteArray).data.toList = Pl.cut1 c s.data.toList := Pl.cut_one c s.data.toList
  rw [e] at h
  exact h
theorem con_any (s : ByteArray) (c : UInt8) (m : Int) (w : World) (hs : s.size < 4294967281) (hm : w.cell? ⟨0, 0, none⟩ = some (.int .i64 m)) :
    Calls Try.prog 27 #[.string s, .string ⟨#[c]⟩] w fun e w' => e = .returned (.bool (hasB c s.data.toList)) ∧ w' = w := by
  have h := Try.strings_Contains s ⟨#[c]⟩ m w hs hm
  have e : Lib.contains s.data.toList (⟨#[c]⟩ : ByteArray).data.toList = hasB c s.data.toList := Pl.contains_one c s.data.toList
  rw [e] at h
  exact h

theorem ne_nil (r : ByteArray) (he : (!r.toList.isEmpty) = true) : r.data.toList ≠ [] := by
  rw [Lib.toList_data] at he
  intro e; rw [e] at he; simp at he
theorem nil_of (r : ByteArray) (he : (!r.toList.isEmpty) = false) : r.data.toList = [] := by
  rw [Lib.toList_data] at he
  simpa using he
theorem fold_yes (n r vv : ByteArray) (X : List UInt8) (he : (!r.toList.isEmpty) = true) (h1 : fnd 1 (bef 2 r) = true) (h2 : (bef 1 (bef 2 r)).toList = n.toList) (h3 : hasB 1 (aft 1 (bef 2 r)).data.toList = false)
    (hv : Hid ((Pl.segs r.data.toList).foldl (Pl.step n.data.toList) vv.data.toList = X)) : Hid ((Pl.segs (aft 2 r).data.toList).foldl (Pl.step n.data.toList) (aft 1 (bef 2 r)).data.toList = X) := by
  show _ = X
  rw [← hv.out, Pl.segs_cut r.data.toList (ne_nil r he), List.foldl_cons]
  rw [Lib.toList_data, Lib.toList_data] at h2
  have e : Pl.step n.data.toList vv.data.toList (Pl.cut1 2 r.data.toList).1 = (aft 1 (bef 2 r)).data.toList := by
    unfold Pl.step
    rw [if_pos ⟨h1, h2, of_decide_eq_false h3⟩]
    rfl
  rw [e]
  rfl
theorem fold_no (n r vv : ByteArray) (X : List UInt8) (he : (!r.toList.isEmpty) = true) (h : fnd 1 (bef 2 r) = false ∨ ¬ (bef 1 (bef 2 r)).toList = n.toList ∨ hasB 1 (aft 1 (bef 2 r)).data.toList = true)
    (hv : Hid ((Pl.segs r.data.toList).foldl (Pl.step n.data.toList) vv.data.toList = X)) : Hid ((Pl.segs (aft 2 r).data.toList).foldl (Pl.step n.data.toList) vv.data.toList = X) := by
  show _ = X
  rw [← hv.out, Pl.segs_cut r.data.toList (ne_nil r he), List.foldl_cons]
  have e : Pl.step n.data.toList vv.data.toList (Pl.cut1 2 r.data.toList).1 = vv.data.toList := by
    unfold Pl.step
    rw [if_neg]
    rintro ⟨a, b, c⟩
    rcases h with h | h | h
    · exact absurd a (by rw [Bool.not_eq_true]; exact h)
    · rw [Lib.toList_data, Lib.toList_data] at h; exact h b
    · exact c (of_decide_eq_true h)
  rw [e]
  rfl
theorem fold_end (n r vv : ByteArray) (X : List UInt8) (he : (!r.toList.isEmpty) = false) (hv : Hid ((Pl.segs r.data.toList).foldl (Pl.step n.data.toList) vv.data.toList = X)) : vv = ⟨X.toArray⟩ := by
  rw [← hv.out, nil_of r he]
  exact (Lib.mk_data vv).symm
theorem ret_str {a b : ByteArray} (h : a = b) : Ending.returned (.string a) = .returned (.string b) := by rw [h]

set_option maxHeartbeats 1000000 in
theorem property_any (p n : ByteArray) (m : Int) (w : World) (hp : p.size < 4294967281) (hm : w.cell? ⟨0, 0, none⟩ = some (.int .i64 m)) :
    Calls Try.prog 20 #[.string p, .string n] w fun e w' => e = .returned (.string ⟨(Pl.prop p.data.toList n.data.toList).toArray⟩) ∧ ∃ nq, w' = w.drewN nq := by
  go_enter Try.func20, Try.ntmps20
  go_wp2
  go_loopw [0, 5] (fun t v wr => ∃ (r vv : ByteArray) (nq : Nat), t = .string r ∧ v = .string vv ∧ wr = w.drewN nq ∧ r.size ≤ p.size ∧ Hid ((Pl.segs r.data.toList).foldl (Pl.step n.data.toList) vv.data.toList = Pl.prop p.data.toList n.data.toList)) (fun t _ _ => strLen t)
  case atStart => exact ⟨p, _, 0, rfl, rfl, rfl, Nat.le_refl _, rfl⟩
  case round =>
    obtain ⟨r, vv, nq, rfl, rfl, rfl, hr, hv⟩ := hrel
    by_cases he : (!r.toList.isEmpty) = true
    · have b1 := bef_size 2 r
      have b2 := aft_size 1 (bef 2 r)
      have b3 := aft_lt 2 r he
      go_wp2_with fail
      refine (cut_any _ _ m _ (by omega) (by exact hm)).mono ?_
      rintro e w' ⟨rfl, k1, rfl⟩
      go_wp2_with fail
      refine (cut_any _ _ m _ (by omega) (by exact hm)).mono ?_
      rintro e w' ⟨rfl, k2, rfl⟩
      by_cases h1 : fnd 1 (bef 2 r) = true
      · go_wp2_with fail
        · refine (con_any _ _ m _ (by omega) (by exact hm)).mono ?_
          rintro e w' ⟨rfl, rfl⟩
          by_cases h3 : hasB 1 (aft 1 (bef 2 r)).data.toList = true
          · go_wp2
            go_roundw
            case rel => exact ⟨_, _, _, rfl, rfl, rfl, by omega, fold_no n r vv _ he (Or.inr (Or.inr h3)) hv⟩
            case measure => exact b3
          · rw [Bool.not_eq_true] at h3
            go_wp2
            go_roundw
            case rel => exact ⟨_, _, _, rfl, rfl, rfl, by omega, fold_yes n r vv _ he h1 ‹_› h3 hv⟩
            case measure => exact b3
        · go_roundw
          case rel => exact ⟨_, _, _, rfl, rfl, rfl, by omega, fold_no n r vv _ he (Or.inr (Or.inl ‹_›)) hv⟩
          case measure => exact b3
      · rw [Bool.not_eq_true] at h1
        go_wp2
        go_roundw
        case rel => exact ⟨_, _, _, rfl, rfl, rfl, by omega, fold_no n r vv _ he (Or.inl h1) hv⟩
        case measure => exact b3
    · rw [Bool.not_eq_true] at he
      go_wp2
      go_ret
      exact ⟨ret_str (fold_end n r vv _ he hv), _, rfl⟩
end Go.Proofs.Qxb6000862a.Wk
