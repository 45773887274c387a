import Derived.Test.Qxb6001153aWalks
import Derived.Test.Qxb6001153aShelf
import Derived.WalkSpells
import Derived.Deep.Draws
namespace Go.Proofs.Qxb6001153a.Wk
open Go.RowKit
set_option linter.unusedVariables false

/-! ### the library's and the program's readers at the rest of the line -/
def idx (s : ByteArray) (k : Nat) : Int := Lib.index (s.data.toList.drop k) [42, 47]
def pfx (c : UInt8) (s : ByteArray) (k : Nat) : Bool := Lib.hasPrefix (s.data.toList.drop k) [47, c]
def qn (s : ByteArray) (k : Nat) : Nat := Pl.qlen (s.data.toList.drop k)
def qc (s : ByteArray) (k : Nat) : Bool := Pl.qclosed (s.data.toList.drop k)
theorem rest_data (s : ByteArray) (k : Nat) : (s.extract k s.size).data.toList = s.data.toList.drop k := by
  rw [Lib.extract_eq]
  show List.take (s.size - k) (s.data.toList.drop k) = _
  exact List.take_of_length_le (by simp)
theorem idx_any (s : ByteArray) (k : Nat) (m : Int) (w : World) (hs : s.size < 4294967281) (hm : w.cell? ⟨0, 0, none⟩ = some (.int .i64 m)) :
    Calls Try.prog 43 #[.string (s.extract k s.size), .string ⟨#[42, 47]⟩] w fun e w' => e = .returned (.int .i64 (idx s k)) ∧ w' = w := by
  have h := Try.strings_Index (s.extract k s.size) ⟨#[42, 47]⟩ m w (by simp; omega) hm
  rw [rest_data] at h
  exact h
theorem pfx_any (s : ByteArray) (k : Nat) (c : UInt8) (w : World) :
    Calls Try.prog 47 #[.string (s.extract k s.size), .string ⟨#[47, c]⟩] w fun e w' => e = .returned (.bool (pfx c s k)) ∧ w' = w := by
  have h := Try.strings_HasPrefix (s.extract k s.size) ⟨#[47, c]⟩ w
  rw [rest_data] at h
  exact h
theorem qn_any (s : ByteArray) (k : Nat) (w : World) (hs : s.size < 4294967281) :
    Calls Try.prog 38 #[.string (s.extract k s.size)] w fun e w' => e = .returned (.tuple #[.int .i64 (qn s k), .bool (qc s k)]) ∧ w' = w := by
  have h := quoted_any (s.extract k s.size) w (by simp; omega)
  rw [rest_data] at h
  exact h
theorem idx_room (s : ByteArray) (k : Nat) (hk : k < s.size) (h : 0 ≤ idx s k) : (k : Int) + (idx s k + 2) ≤ s.size := by
  have := Lib.index_room (s.data.toList.drop k) [42, 47] h
  rw [List.length_drop, ← Lib.size_eq] at this
  unfold idx at *
  have : ([42, 47] : List UInt8).length = 2 := rfl
  omega
theorem qn_le (s : ByteArray) (k : Nat) (hk : k < s.size) : k + qn s k ≤ s.size ∧ 1 ≤ qn s k := by
  have h1 := Pl.qlen_le (s.data.toList.drop k)
  have h2 := Pl.qlen_pos (s.data.toList.drop k) (by rw [drop_get s k hk]; simp)
  rw [List.length_drop, ← Lib.size_eq] at h1
  unfold qn; omega
theorem pfx_room (c : UInt8) (s : ByteArray) (k : Nat) (hk : k < s.size) (h : pfx c s k = true) : k + 2 ≤ s.size := by
  unfold pfx at h
  rw [drop_get s k hk, Pl.hasPrefix_two] at h
  rcases Nat.lt_or_ge (k + 1) s.size with h1 | h1
  · omega
  · rw [List.drop_of_length_le (by simp; omega)] at h; simp at h

/-! ### the rest of the line, stripped -/
def sk (s : ByteArray) (k : Nat) (o op : Bool) : List UInt8 × Bool × Bool := Pl.strip (s.size - k) (s.data.toList.drop k) o op
def SR (s : ByteArray) (k : Nat) (o op : Bool) (acc : List UInt8) (X : List UInt8 × Bool × Bool) : Prop := (acc ++ (sk s k o op).1, (sk s k o op).2) = X
theorem sk_fuel (s : ByteArray) (f k : Nat) (o op : Bool) (h : s.size - k ≤ f) : Pl.strip f (s.data.toList.drop k) o op = sk s k o op :=
  Pl.strip_fuel _ _ _ _ _ (by rw [List.length_drop, ← Lib.size_eq]; exact h) (by rw [List.length_drop, ← Lib.size_eq]; exact Nat.le_refl _)
theorem sk_open (s : ByteArray) (k : Nat) (hk : k < s.size) (op : Bool) : sk s k true op = if idx s k < 0 then ([], true, op) else (32 :: (sk s (k + ((idx s k).toNat + 2)) false false).1, (sk s (k + ((idx s k).toNat + 2)) false false).2) := by
  unfold sk idx
  obtain ⟨f, hf⟩ : ∃ f, s.size - k = f + 1 := ⟨s.size - k - 1, by omega⟩
  rw [hf, drop_get s k hk, Pl.strip, ← drop_get s k hk, List.drop_drop]
  rw [sk_fuel s f _ false false (by omega)]
  rfl
theorem sk_shut (s : ByteArray) (k : Nat) (hk : k < s.size) (op : Bool) : sk s k false op =
    if s[k] = 34 then ((s.data.toList.drop k).take (qn s k) ++ (sk s (k + qn s k) false op).1, (sk s (k + qn s k) false op).2)
    else if pfx 47 s k = true then ([], false, op)
    else if pfx 42 s k = true then sk s (k + 2) true true
    else (s[k] :: (sk s (k + 1) false op).1, (sk s (k + 1) false op).2) := by
  have hq := (qn_le s k hk).2
  have e1 : (s.data.toList.drop k).drop (qn s k) = s.data.toList.drop (k + qn s k) := List.drop_drop
  have e2 : (s.data.toList.drop k).drop 2 = s.data.toList.drop (k + 2) := List.drop_drop
  unfold pfx
  unfold qn at e1 hq ⊢
  rw [sk]
  obtain ⟨f, hf⟩ : ∃ f, s.size - k = f + 1 := ⟨s.size - k - 1, by omega⟩
  rw [hf]
  rw [drop_get s k hk] at e1 e2 hq ⊢
  rw [Pl.strip, e1, e2]
  rw [sk_fuel s f _ false op (by omega), sk_fuel s f _ true true (by omega), sk_fuel s f _ false op (by omega)]
theorem below_draws {B : Nat} {w wr : World} (h : Below B w wr) (k : Nat) : Below B w (wr.drewN k) := ⟨h.os, h.tape, h.output, h.size, h.block⟩
theorem ret3 {a a' : ByteArray} {b b' c c' : Bool} (h1 : a = a') (h2 : b = b') (h3 : c = c') : Ending.returned (.tuple #[.string a, .bool b, .bool c]) = .returned (.tuple #[.string a', .bool b', .bool c']) := by rw [h1, h2, h3]
theorem SR_end (s : ByteArray) (k : Nat) (o op : Bool) (acc l : List UInt8) (X : List UInt8 × Bool × Bool) (h : Hid (SR s k o op acc X)) (e : sk s k o op = (l, X.2)) : acc ++ l = X.1 := by
  have := h.out
  unfold SR at this
  rw [e] at this
  rw [← this]
theorem SR_fin (s : ByteArray) (k : Nat) (o op o' op' : Bool) (acc : List UInt8) (X : List UInt8 × Bool × Bool) (h : Hid (SR s k o op acc X)) (e : sk s k o op = ([], o', op')) :
    Ending.returned (.tuple #[.string ⟨acc.toArray⟩, .bool o', .bool op']) = .returned (.tuple #[.string ⟨X.1.toArray⟩, .bool X.2.1, .bool X.2.2]) := by
  have := h.out
  unfold SR at this
  rw [e] at this
  rw [← this]
  simp
theorem SR_on (s : ByteArray) (k k' : Nat) (o op o' op' : Bool) (acc l : List UInt8) (X : List UInt8 × Bool × Bool) (h : Hid (SR s k o op acc X)) (e : sk s k o op = (l ++ (sk s k' o' op').1, (sk s k' o' op').2)) : Hid (SR s k' o' op' (acc ++ l) X) := by
  show SR s k' o' op' (acc ++ l) X
  have := h.out
  unfold SR at this ⊢
  rw [e] at this
  rw [← this]
  simp
theorem cells_byte (acc : List UInt8) (c : UInt8) : Lib.byteCells (acc ++ [c]) = Lib.byteCells acc ++ [.int .u8 c.toNat] := by
  rw [Lib.byteCells_append]; rfl
theorem mid_data (s : ByteArray) (k n : Nat) : (s.extract k (k + n)).data.toList = (s.data.toList.drop k).take n := by
  rw [Lib.extract_eq]
  show List.take (k + n - k) _ = _
  rw [Nat.add_sub_cancel_left]
theorem mid_size (s : ByteArray) (k n : Nat) (h : k + n ≤ s.size) : (s.extract k (k + n)).size = n := by
  simp; omega

set_option maxHeartbeats 2000000 in
theorem strip_any (s : ByteArray) (o : Bool) (m : Int) (w : World) (hs : s.size ≤ 4194304) (hm : w.cell? ⟨0, 0, none⟩ = some (.int .i64 m)) (h0 : 0 < w.heap.size) :
    Calls Try.prog 39 #[.string s, .bool o] w fun e w' => e = .returned (.tuple #[.string ⟨(Pl.sc s.data.toList o).1.toArray⟩, .bool (Pl.sc s.data.toList o).2.1, .bool (Pl.sc s.data.toList o).2.2]) ∧ Below w.heap.size w w' := by
  go_enter Try.func39, Try.ntmps39
  go_wp2
  go_loopw [1, 6, 8] (fun t1 t6 i wr => ∃ (k : Nat) (oo op : Bool) (acc : List UInt8), t1 = .bool oo ∧ t6 = .bool op ∧ i = .int .i64 k ∧ k ≤ s.size ∧ acc.length ≤ k ∧ Lib.IsBuilderF 63 5 w.heap.size w.heap.size (Lib.byteCells acc) wr ∧ Below w.heap.size w wr ∧ w.heap.size < wr.heap.size ∧ Hid (SR s k oo op acc (Pl.sc s.data.toList o))) (fun _ _ i _ => s.size - (intOf i).toNat)
  case atStart => exact ⟨0, o, false, [], rfl, rfl, rfl, by omega, by simp, Lib.IsBuilderF.of (Lib.fresh_isBuilder 63 5 w), (Below.refl _ w).alloc (Nat.le_refl _) _, by simp, (by unfold SR Pl.sc sk; simp : SR s 0 o false [] _)⟩
  case round =>
    obtain ⟨k, oo, op, acc, rfl, rfl, rfl, hk, hal, hI, hb, hsz, hR⟩ := hrel
    have hm' : wr.cell? ⟨0, 0, none⟩ = some (.int .i64 m) := (hb.cell (p := ⟨0, 0, none⟩) h0).trans hm
    by_cases hlt : k < s.size
    · cases oo with
      | true =>
        go_wp2_with fail
        refine (idx_any _ _ m _ (by omega) (by exact hm')).mono ?_
        rintro e w' ⟨rfl, rfl⟩
        by_cases hi : idx s k < 0
        · go_wp2_with fail
          refine (Try.Builder_String_any_k w.heap.size w.heap.size _ _ (by exact hI) (by omega)).mono ?_
          rintro e w2 ⟨rfl, _, hb2, _⟩
          go_wp2
          go_ret3
          exact ⟨SR_fin s k true op true op acc _ hR (by rw [sk_open s k hlt, if_pos hi]), hb.trans hb2⟩
        · have hr := idx_room s k hlt (by omega)
          have hi0 : 0 ≤ idx s k := by omega
          go_wp2_with fail
          refine (Try.Builder_WriteByte_k w.heap.size w.heap.size _ _ _ (by exact hI) (by rw [Lib.byteCells_length]; omega) (by omega)).mono ?_
          rintro e w2 ⟨rfl, hI2, hb2, _⟩
          have hs2 := hb2.size
          go_wp2
          go_roundw
          case rel =>
            refine ⟨k + ((idx s k).toNat + 2), false, false, acc ++ [32], rfl, rfl, by rw [show ((k + ((idx s k).toNat + 2) : Nat) : Int) = (k : Int) + (idx s k + 2) by omega], by omega, by simp; omega, ?_, hb.trans hb2, by omega, SR_on s k _ true op false false acc [32] _ hR (by rw [sk_open s k hlt, if_neg (by omega)]; rfl)⟩
            rw [cells_byte]
            exact Or.inr hI2
          case measure => simp [intOf]; omega
      | false =>
        by_cases h34 : ((s[k].toNat : Int) == 34) = true
        · have hq := qn_le s k hlt
          have hms := mid_size s k (qn s k) hq.1
          go_wp2_with fail
          refine (qn_any _ _ _ (by omega)).mono ?_
          rintro e w' ⟨rfl, rfl⟩
          have c1 : (0 : Int) ≤ (k : Int) + (qn s k : Int) := by omega
          have c2 : (k : Int) + (qn s k : Int) ≤ (s.size : Int) := by omega
          have c3 : (k : Int) ≤ (k : Int) + (qn s k : Int) := by omega
          go_wp2_with fail
          refine (Try.Builder_WriteString_k w.heap.size w.heap.size _ _ _ (by exact hI) (by rw [Lib.byteCells_length, hms]; omega) (by omega)).mono ?_
          rintro e w2 ⟨rfl, hI2, hb2, _⟩
          have hs2 := hb2.size
          go_wp2
          go_roundw
          case rel =>
            refine ⟨k + qn s k, false, op, acc ++ (s.data.toList.drop k).take (qn s k), rfl, rfl, by go_num, hq.1, ?_, ?_, hb.trans hb2, by omega, SR_on s k (k + qn s k) false op false op acc _ _ hR (by rw [sk_shut s k hlt, if_pos (eq_of s[k] 34 h34)])⟩
            · rw [← mid_data, List.length_append, ← Lib.size_eq, hms]; omega
            · rw [Lib.byteCells_append, ← mid_data]
              exact Or.inr hI2
          case measure => simp [intOf]; omega
        · rw [Bool.not_eq_true] at h34
          have n34 := ne_of s[k] 34 h34
          have N34 : Hid (s[k] ≠ 34) := n34
          clear n34
          go_wp2_with fail
          refine (pfx_any _ _ _ _).mono ?_
          rintro e w' ⟨rfl, rfl⟩
          by_cases h47 : pfx 47 s k = true
          · go_wp2_with fail
            refine (Try.Builder_String_any_k w.heap.size w.heap.size _ _ (by exact hI) (by omega)).mono ?_
            rintro e w2 ⟨rfl, _, hb2, _⟩
            go_wp2
            go_ret3
            exact ⟨SR_fin s k false op false op acc _ hR (by rw [sk_shut s k hlt, if_neg N34.out, if_pos h47]), hb.trans hb2⟩
          · rw [Bool.not_eq_true] at h47
            go_wp2_with fail
            refine (pfx_any _ _ _ _).mono ?_
            rintro e w' ⟨rfl, rfl⟩
            by_cases h42 : pfx 42 s k = true
            · have hrm := pfx_room 42 s k hlt h42
              go_wp2
              go_roundw
              case rel => exact ⟨k + 2, true, true, acc, rfl, rfl, by go_num, hrm, by omega, hI, hb, hsz, by have := SR_on s k (k + 2) false op true true acc [] _ hR (by rw [sk_shut s k hlt, if_neg N34.out, h47, if_neg (by simp), if_pos h42]; rfl); rwa [List.append_nil] at this⟩
              case measure => simp [intOf]; omega
            · rw [Bool.not_eq_true] at h42
              go_wp2_with fail
              refine (Try.Builder_WriteByte_k w.heap.size w.heap.size _ _ _ (by exact hI) (by rw [Lib.byteCells_length]; omega) (by omega)).mono ?_
              rintro e w2 ⟨rfl, hI2, hb2, _⟩
              have hs2 := hb2.size
              go_wp2
              go_roundw
              case rel =>
                refine ⟨k + 1, false, op, acc ++ [s[k]], rfl, rfl, by go_num, by omega, by simp; omega, ?_, hb.trans hb2, by omega, SR_on s k (k + 1) false op false op acc [s[k]] _ hR (by rw [sk_shut s k hlt, if_neg N34.out, h47, h42, if_neg (by simp), if_neg (by simp)]; rfl)⟩
                rw [cells_byte]
                exact Or.inr hI2
              case measure => simp [intOf]; omega
    · go_wp2_with fail
      refine (Try.Builder_String_any_k w.heap.size w.heap.size _ _ (by exact hI) (by omega)).mono ?_
      rintro e w2 ⟨rfl, _, hb2, _⟩
      go_wp2
      go_ret3
      exact ⟨SR_fin s k oo op oo op acc _ hR (by unfold sk; rw [List.drop_of_length_le (by simp; omega), Pl.strip_nil]), hb.trans hb2⟩
end Go.Proofs.Qxb6001153a.Wk
