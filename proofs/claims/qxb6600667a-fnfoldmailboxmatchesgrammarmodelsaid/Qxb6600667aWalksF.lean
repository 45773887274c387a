import Derived.Test.Qxb6600667aWalksE
namespace Go.Proofs.Qxb6600667a.Wk
open Go.RowKit
set_option linter.unusedVariables false

theorem ret_str {a b : ByteArray} (h : a = b) : Ending.returned (.string a) = .returned (.string b) := by rw [h]
theorem get_data (s : ByteArray) (k : Nat) (h : k < s.size) : s.data.toList[k]? = some s[k] := by
  rw [List.getElem?_eq_getElem (by simpa using h)]; rfl

/-! ### the bytes -/
def upI (c : UInt8) : Bool := decide (65 ≤ (c.toNat : Int) ∧ (c.toNat : Int) ≤ 90)
def alI (c : UInt8) : Bool := decide ((97 ≤ (c.toNat : Int) ∧ (c.toNat : Int) ≤ 122) ∨ (65 ≤ (c.toNat : Int) ∧ (c.toNat : Int) ≤ 90))
theorem swp_val (c : UInt8) (h : (97 ≤ (c.toNat : Int) ∧ (c.toNat : Int) ≤ 122) ∨ (65 ≤ (c.toNat : Int) ∧ (c.toNat : Int) ≤ 90)) : bits .xor .u8 (c.toNat : Int) 32 = ((Pl.swp c).toNat : Int) := by
  have h1 := Pl.allB (fun c => !(alI c) || decide (bits .xor .u8 (c.toNat : Int) 32 = ((Pl.swp c).toNat : Int))) (by decide +kernel) c
  have h2 : alI c = true := decide_eq_true h
  simp only [h2, Bool.not_true, Bool.false_or, decide_eq_true_eq] at h1
  exact h1
theorem swp_id (c : UInt8) (h : ¬ ((97 ≤ (c.toNat : Int) ∧ (c.toNat : Int) ≤ 122) ∨ (65 ≤ (c.toNat : Int) ∧ (c.toNat : Int) ≤ 90))) : Pl.swp c = c := by
  have h1 := Pl.allB (fun c => alI c || decide (Pl.swp c = c)) (by decide +kernel) c
  have h2 : alI c = false := decide_eq_false h
  simp only [h2, Bool.false_or, decide_eq_true_eq] at h1
  exact h1
theorem low_or (c : UInt8) (h : 65 ≤ (c.toNat : Int) ∧ (c.toNat : Int) ≤ 90) : bits .or .u8 (c.toNat : Int) 32 = ((Pl.low c).toNat : Int) := by
  have h1 := Pl.allB (fun c => !(upI c) || decide (bits .or .u8 (c.toNat : Int) 32 = ((Pl.low c).toNat : Int))) (by decide +kernel) c
  have h2 : upI c = true := decide_eq_true h
  simp only [h2, Bool.not_true, Bool.false_or, decide_eq_true_eq] at h1
  exact h1
theorem low_add (c : UInt8) (h : 65 ≤ (c.toNat : Int) ∧ (c.toNat : Int) ≤ 90) : (c.toNat : Int) + 97 - 65 = ((Pl.low c).toNat : Int) := by
  have h1 := Pl.allB (fun c => !(upI c) || decide ((c.toNat : Int) + 97 - 65 = ((Pl.low c).toNat : Int))) (by decide +kernel) c
  have h2 : upI c = true := decide_eq_true h
  simp only [h2, Bool.not_true, Bool.false_or, decide_eq_true_eq] at h1
  exact h1
theorem low_id (c : UInt8) (h : ¬ (65 ≤ (c.toNat : Int) ∧ (c.toNat : Int) ≤ 90)) : Pl.low c = c := by
  have h1 := Pl.allB (fun c => upI c || decide (Pl.low c = c)) (by decide +kernel) c
  have h2 : upI c = false := decide_eq_false h
  simp only [h2, Bool.false_or, decide_eq_true_eq] at h1
  exact h1
theorem val_int {a b : Int} (h : a = b) : Value.int .u8 a = .int .u8 b := by rw [h]
/-- A round that writes. -/
theorem row_step {wr : World} {g lo k : Nat} {f : UInt8 → UInt8} {l : List UInt8} {c : UInt8} {v : Int} (hrow : RowAt wr g (mapTo f lo k l)) (hc : l[k]? = some c) (hlo : lo ≤ k) (hv : v = ((f c).toNat : Int)) : RowAt (wr.setCell ⟨g, k, none⟩ (.int .u8 v)) g (mapTo f lo (k + 1) l) := by
  have hk : k < l.length := (List.getElem?_eq_some_iff.1 hc).1
  rw [← mapTo_set f lo k l c hc hlo]
  exact row_set hrow k (by rw [mapTo_length]; exact hk) (f c) _ (val_int hv)

set_option maxHeartbeats 2000000 in
theorem swap_any (s : ByteArray) (w : World) (hs : s.size < 4294967281) :
    Calls Try.prog 16 #[.string s] w fun e w' => e = .returned (.string ⟨(s.data.toList.map Pl.swp).toArray⟩) ∧ Below w.heap.size w w' := by
  obtain ⟨cap, w1, hconv, hrow, hb, hlt⟩ := row_conv w s
  go_enter Try.func16, Try.ntmps16
  go_wp2
  go_loopw [4] (fun i wr => ∃ k : Nat, k ≤ s.size ∧ i = .int .i64 k ∧ RowAt wr w.heap.size (mapTo Pl.swp 0 k s.data.toList) ∧ Below w.heap.size w wr) (fun i _ => s.size - (intOf i).toNat)
  case atStart => exact ⟨0, Nat.zero_le _, rfl, by rw [mapTo_start _ _ _ _ (Nat.le_refl _)]; exact hrow, hb⟩
  case round =>
    obtain ⟨k, hk, rfl, hrow, hb⟩ := hrel
    by_cases hk : k < s.size
    · obtain ⟨hc, hf⟩ := hrow k s[k] (by rw [mapTo_get, get_data s k hk]; simp)
      by_cases hl : (97 ≤ (s[k].toNat : Int) ∧ (s[k].toNat : Int) ≤ 122) ∨ (65 ≤ (s[k].toNat : Int) ∧ (s[k].toNat : Int) ≤ 90)
      · have HL : Hid ((97 ≤ (s[k].toNat : Int) ∧ (s[k].toNat : Int) ≤ 122) ∨ (65 ≤ (s[k].toNat : Int) ∧ (s[k].toNat : Int) ≤ 90)) := hl
        go_wp2
        all_goals
          go_roundw
          case rel => exact ⟨k + 1, by omega, by go_num, row_step hrow (get_data s k hk) (Nat.zero_le _) (swp_val s[k] HL.out), hb.setCell (by exact Nat.le_refl _) _⟩
          case measure => simp [intOf]; omega
      · have HL : Hid (¬ ((97 ≤ (s[k].toNat : Int) ∧ (s[k].toNat : Int) ≤ 122) ∨ (65 ≤ (s[k].toNat : Int) ∧ (s[k].toNat : Int) ≤ 90))) := hl
        go_wp2
        all_goals
          go_roundw
          case rel => exact ⟨k + 1, by omega, by go_num, by rw [← mapTo_skip _ _ _ _ s[k] (get_data s k hk) (swp_id s[k] HL.out)]; exact hrow, hb⟩
          case measure => simp [intOf]; omega
    · have hback := row_back wr w.heap.size s.size cap _ hrow (by rw [mapTo_length, ← Lib.size_eq])
      go_wp2
      go_ret
      exact ⟨ret_str (by rw [mapTo_end _ _ _ _ (by rw [← Lib.size_eq]; omega)]; rfl), hb⟩
end Go.Proofs.Qxb6600667a.Wk
