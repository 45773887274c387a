import Derived.Test.Qxb6600667aWalksB
import Derived.Test.Qxb6600667aShelf
import Derived.Deep.Draws
namespace Go.Proofs.Qxb6600667a.Wk
open Go.RowKit
set_option linter.unusedVariables false

/-! ### isAtext -/
def symIdx (c : UInt8) : Int := Lib.indexByte [33, 35, 36, 37, 38, 39, 42, 43, 45, 47, 61, 63, 94, 95, 96, 123, 124, 125, 126] c
theorem sym_any (c : UInt8) (w : World) :
    Calls Try.prog 29 #[.string ⟨#[33, 35, 36, 37, 38, 39, 42, 43, 45, 47, 61, 63, 94, 95, 96, 123, 124, 125, 126]⟩, .int .u8 c.toNat] w fun e w' => e = .returned (.int .i64 (symIdx c)) ∧ w' = w := by
  have h := Try.strings_IndexByte ⟨#[33, 35, 36, 37, 38, 39, 42, 43, 45, 47, 61, 63, 94, 95, 96, 123, 124, 125, 126]⟩ c.toNat w
  have e : ((c.toNat : Int)).toNat.toUInt8 = c := by simp
  rw [e] at h
  exact h
theorem at_let (c : UInt8) (h : letB c = true) : Pl.atB c = true := by
  have := Pl.allB (fun c => !(letB c) || Pl.atB c) (by decide +kernel) c
  simpa [h] using this
theorem at_dig (c : UInt8) (h : digB c = true) : Pl.atB c = true := by
  have := Pl.allB (fun c => !(digB c) || Pl.atB c) (by decide +kernel) c
  simpa [h] using this
theorem at_sym (c : UInt8) (h : letB c = false) (h2 : digB c = false) : decide (0 ≤ symIdx c) = Pl.atB c := by
  have := Pl.allB (fun c => letB c || digB c || (decide (0 ≤ symIdx c) == Pl.atB c)) (by decide +kernel) c
  simpa [h, h2] using this

set_option maxHeartbeats 1000000 in
theorem atext_any (c : UInt8) (w : World) : Calls Try.prog 23 #[.int .u8 c.toNat] w fun e w' => e = .returned (.bool (Pl.atB c)) ∧ w' = w := by
  by_cases h1 : letB c = true
  · go_enter Try.func23, Try.ntmps23
    go_wp2_with fail
    refine (letter_any _ _).mono ?_
    rintro e w' ⟨rfl, rfl⟩
    go_wp2
    go_ret
    exact ⟨ret_bool (at_let c h1).symm, rfl⟩
  · rw [Bool.not_eq_true] at h1
    by_cases h2 : digB c = true
    · go_enter Try.func23, Try.ntmps23
      go_wp2_with fail
      refine (letter_any _ _).mono ?_
      rintro e w' ⟨rfl, rfl⟩
      go_wp2_with fail
      refine (digit_any _ _).mono ?_
      rintro e w' ⟨rfl, rfl⟩
      go_wp2
      go_ret
      exact ⟨ret_bool (at_dig c h2).symm, rfl⟩
    · rw [Bool.not_eq_true] at h2
      go_enter Try.func23, Try.ntmps23
      go_wp2_with fail
      refine (letter_any _ _).mono ?_
      rintro e w' ⟨rfl, rfl⟩
      go_wp2_with fail
      refine (digit_any _ _).mono ?_
      rintro e w' ⟨rfl, rfl⟩
      go_wp2_with fail
      refine (sym_any _ _).mono ?_
      rintro e w' ⟨rfl, rfl⟩
      go_wp2
      go_ret
      exact ⟨ret_bool (at_sym c h1 h2), rfl⟩

/-! ### localPartLength -/
def ds (s : ByteArray) : List UInt8 := s.data.toList.takeWhile Pl.dotB
def pB (s : ByteArray) : Bool := Lib.hasPrefix (ds s) [46]
def sB (s : ByteArray) : Bool := Lib.hasSuffix (ds s) [46]
def cB (s : ByteArray) : Bool := Lib.contains (ds s) [46, 46]
theorem ds_data (s : ByteArray) (k : Nat) (h : Hid (k = (ds s).length)) : (s.extract 0 k).data.toList = ds s := by
  rw [Lib.extract_eq, h.out]
  show List.take ((ds s).length - 0) (List.drop 0 s.data.toList) = _
  rw [List.drop_zero, Nat.sub_zero]
  unfold ds
  exact (List.prefix_iff_eq_take.1 (List.takeWhile_prefix _)).symm
theorem pB_any (s : ByteArray) (k : Nat) (w : World) (h : Hid (k = (ds s).length)) :
    Calls Try.prog 24 #[.string (s.extract 0 k), .string ⟨#[46]⟩] w fun e w' => e = .returned (.bool (pB s)) ∧ w' = w := by
  have h1 := Try.strings_HasPrefix (s.extract 0 k) ⟨#[46]⟩ w
  rw [ds_data s k h] at h1
  exact h1
theorem sB_any (s : ByteArray) (k : Nat) (w : World) (hs : s.size < 4294967281) (h : Hid (k = (ds s).length)) :
    Calls Try.prog 25 #[.string (s.extract 0 k), .string ⟨#[46]⟩] w fun e w' => e = .returned (.bool (sB s)) ∧ w' = w := by
  have h1 := Try.strings_HasSuffix (s.extract 0 k) ⟨#[46]⟩ w (by simp; omega)
  rw [ds_data s k h] at h1
  exact h1
theorem cB_any (s : ByteArray) (k : Nat) (m : Int) (w : World) (hs : s.size < 4294967281) (hm : w.cell? ⟨0, 0, none⟩ = some (.int .i64 m)) (h : Hid (k = (ds s).length)) :
    Calls Try.prog 26 #[.string (s.extract 0 k), .string ⟨#[46, 46]⟩] w fun e w' => e = .returned (.bool (cB s)) ∧ w' = w := by
  have h1 := Try.strings_Contains (s.extract 0 k) ⟨#[46, 46]⟩ m w (by simp; omega) hm
  rw [ds_data s k h] at h1
  exact h1
/-- The first k bytes are all atext or dots. -/
def DR (s : ByteArray) (k : Nat) : Prop := (ds s).length = k + ((s.data.toList.drop k).takeWhile Pl.dotB).length
theorem DR_on (s : ByteArray) (k : Nat) (h : k < s.size) (hd : Pl.dotB s[k] = true) (hq : Hid (DR s k)) : Hid (DR s (k + 1)) := by
  show DR s (k + 1)
  have := hq.out
  unfold DR at this ⊢
  rw [drop_get s k h, List.takeWhile_cons_of_pos hd, List.length_cons] at this
  omega
theorem DR_stop (s : ByteArray) (k : Nat) (h : k < s.size) (hd : Pl.dotB s[k] = false) (hq : Hid (DR s k)) : Hid (k = (ds s).length) := by
  show k = (ds s).length
  have := hq.out
  unfold DR at this
  rw [drop_get s k h, List.takeWhile_cons_of_neg (by simp [hd]), List.length_nil] at this
  omega
theorem DR_end (s : ByteArray) (k : Nat) (h : ¬ k < s.size) (hq : Hid (DR s k)) : Hid (k = (ds s).length) := by
  show k = (ds s).length
  have := hq.out
  unfold DR at this
  rw [drop_end s k h] at this
  simpa using this.symm
theorem dot_of (c : UInt8) : Pl.dotB c = (Pl.atB c || ((c.toNat : Int) == 46)) := by
  unfold Pl.dotB
  congr 1
  rw [Bool.eq_iff_iff, beq_iff_eq, beq_iff_eq]
  constructor
  · intro e; rw [e]; rfl
  · intro e; exact eq_of c 46 (by rw [beq_iff_eq]; exact e)
theorem nonempty_of (s : ByteArray) (h : 0 < s.size) : s.data.toList ≠ [] := by
  intro e; have := Lib.size_eq s; rw [e, List.length_nil] at this; omega
theorem head_of (s : ByteArray) (h : 0 < s.size) : s.data.toList.head? = some s[0] := by
  have := drop_get s 0 h
  rw [List.drop_zero] at this
  rw [this]; rfl
theorem lpl_quoted (s : ByteArray) (h : 0 < s.size) (hq : ((s[0].toNat : Int) == 34) = true) : Pl.lpl s.data.toList = (Pl.qsl s.data.toList.tail).map (· + 1) := by
  unfold Pl.lpl
  rw [if_neg (nonempty_of s h), if_pos (by rw [head_of s h, eq_of s[0] 34 hq])]
theorem lpl_dots (s : ByteArray) (h : 0 < s.size) (hq : ((s[0].toNat : Int) == 34) = false) : Pl.lpl s.data.toList = if (ds s).length = 0 then none else if (pB s || sB s || cB s) = true then none else some (ds s).length := by
  unfold Pl.lpl
  rw [if_neg (nonempty_of s h), if_neg (by rw [head_of s h]; intro e; exact ne_of s[0] 34 hq (Option.some.inj e))]
  rfl
theorem lpl_empty (s : ByteArray) (h : ¬ 0 < s.size) : Pl.lpl s.data.toList = none := by
  have : s.data.toList = [] := by
    have := Lib.size_eq s
    rw [← List.length_eq_zero_iff]; omega
  rw [this]; rfl
set_option maxHeartbeats 2000000 in
theorem lpl_any (s : ByteArray) (m : Int) (w : World) (hs : s.size < 4294967281) (hm : w.cell? ⟨0, 0, none⟩ = some (.int .i64 m)) :
    Calls Try.prog 20 #[.string s] w fun e w' => (∃ n : Nat, Hid (Pl.lpl s.data.toList = some n) ∧ n ≤ s.size ∧ e = .returned (.tuple #[.int .i64 n, .nilIface]) ∧ w' = w) ∨ (Hid (Pl.lpl s.data.toList = none) ∧ Failed2 w e w') := by
  by_cases hp : 0 < s.size
  · have hz : s.toList.isEmpty = false := by rw [Lib.toList_data]; have := nonempty_of s hp; cases h : s.data.toList <;> simp_all
    by_cases hq : ((s[0].toNat : Int) == 34) = true
    · go_enter Try.func20, Try.ntmps20
      go_wp2_with fail
      refine (quotedStr_any _ _ (by omega)).mono ?_
      rintro e w' (⟨k, hk, hks, rfl, rfl⟩ | ⟨hn, a, rfl, hb⟩)
      · go_wp2
        go_ret2
        exact Or.inl ⟨k + 1, (by rw [lpl_quoted s hp hq, hk.out]; rfl : Pl.lpl s.data.toList = some (k + 1)), hks, rfl, rfl⟩
      · go_wp2
        go_ret2
        exact Or.inr ⟨(by rw [lpl_quoted s hp hq, hn.out]; rfl : Pl.lpl s.data.toList = none), a, rfl, hb⟩
    · rw [Bool.not_eq_true] at hq
      go_enter Try.func20, Try.ntmps20
      go_wp2
      go_loop [4] (fun i => ∃ k : Nat, k ≤ s.size ∧ i = .int .i64 k ∧ Hid (DR s k)) (fun i => s.size - (intOf i).toNat)
      case atStart => exact ⟨0, by omega, rfl, (by unfold DR ds; simp : DR s 0)⟩
      case round =>
        obtain ⟨k, hk, rfl, hd⟩ := hrel
        by_cases hlt : k < s.size
        · by_cases ha : Pl.atB s[k] = true
          · go_wp2_with fail
            refine (atext_any _ _).mono ?_
            rintro e w' ⟨rfl, rfl⟩
            go_wp2
            go_round
            case rel => exact ⟨k + 1, by omega, by go_num, DR_on s k hlt (by rw [dot_of, ha]; rfl) hd⟩
            case measure => simp [intOf]; omega
          · rw [Bool.not_eq_true] at ha
            by_cases h46 : ((s[k].toNat : Int) == 46) = true
            · go_wp2_with fail
              refine (atext_any _ _).mono ?_
              rintro e w' ⟨rfl, rfl⟩
              go_wp2
              go_round
              case rel => exact ⟨k + 1, by omega, by go_num, DR_on s k hlt (by rw [dot_of, ha, h46]; rfl) hd⟩
              case measure => simp [intOf]; omega
            · rw [Bool.not_eq_true] at h46
              have he := DR_stop s k hlt (by rw [dot_of, ha, h46]; rfl) hd
              go_wp2_with fail
              refine (atext_any _ _).mono ?_
              rintro e w' ⟨rfl, rfl⟩
              go_wp2_with fail
              · have hk0 : (ds s).length = 0 := by have h1 : ((k : Int) == 0) = true := by assumption
                                                   rw [beq_iff_eq] at h1; have := he.out; omega
                refine (errorf_any _ _ _ _ _).mono ?_
                rintro e w2 ⟨rfl, rfl⟩
                go_wp2
                go_ret2
                exact Or.inr ⟨(by rw [lpl_dots s hp hq, if_pos hk0] : Pl.lpl s.data.toList = none), _, rfl, below2 _ _ _⟩
              · have hk0 : ¬ (ds s).length = 0 := by have h1 : ((k : Int) == 0) = false := by assumption
                                                     rw [beq_eq_false_iff_ne] at h1; have := he.out; omega
                have HK : Hid (¬ (ds s).length = 0) := hk0
                clear hk0
                refine (pB_any _ _ _ he).mono ?_
                rintro e w2 ⟨rfl, rfl⟩
                by_cases h1 : pB s = true
                · go_wp2_with fail
                  refine (errorf_any _ _ _ _ _).mono ?_
                  rintro e w2 ⟨rfl, rfl⟩
                  go_wp2
                  go_ret2
                  exact Or.inr ⟨(by rw [lpl_dots s hp hq, if_neg HK.out, h1]; rfl : Pl.lpl s.data.toList = none), _, rfl, below1 _ _⟩
                · rw [Bool.not_eq_true] at h1
                  go_wp2_with fail
                  refine (sB_any _ _ _ (by omega) he).mono ?_
                  rintro e w2 ⟨rfl, rfl⟩
                  by_cases h2 : sB s = true
                  · go_wp2_with fail
                    refine (errorf_any _ _ _ _ _).mono ?_
                    rintro e w2 ⟨rfl, rfl⟩
                    go_wp2
                    go_ret2
                    exact Or.inr ⟨(by rw [lpl_dots s hp hq, if_neg HK.out, h1, h2]; rfl : Pl.lpl s.data.toList = none), _, rfl, below1 _ _⟩
                  · rw [Bool.not_eq_true] at h2
                    go_wp2_with fail
                    refine (cB_any _ _ m _ (by omega) (by exact hm) he).mono ?_
                    rintro e w2 ⟨rfl, rfl⟩
                    by_cases h3 : cB s = true
                    · go_wp2_with fail
                      refine (errorf_any _ _ _ _ _).mono ?_
                      rintro e w2 ⟨rfl, rfl⟩
                      go_wp2
                      go_ret2
                      exact Or.inr ⟨(by rw [lpl_dots s hp hq, if_neg HK.out, h1, h2, h3]; rfl : Pl.lpl s.data.toList = none), _, rfl, below1 _ _⟩
                    · rw [Bool.not_eq_true] at h3
                      go_wp2
                      go_ret2
                      exact Or.inl ⟨k, (by rw [lpl_dots s hp hq, if_neg HK.out, h1, h2, h3, he.out]; rfl : Pl.lpl s.data.toList = some k), hk, rfl, rfl⟩
        · have he := DR_end s k hlt hd
          go_wp2_with fail
          · have hk0 : ¬ (ds s).length = 0 := by have := he.out; omega
            have HK : Hid (¬ (ds s).length = 0) := hk0
            clear hk0
            refine (pB_any _ _ _ he).mono ?_
            rintro e w2 ⟨rfl, rfl⟩
            by_cases h1 : pB s = true
            · go_wp2_with fail
              refine (errorf_any _ _ _ _ _).mono ?_
              rintro e w2 ⟨rfl, rfl⟩
              go_wp2
              go_ret2
              exact Or.inr ⟨(by rw [lpl_dots s hp hq, if_neg HK.out, h1]; rfl : Pl.lpl s.data.toList = none), _, rfl, below1 _ _⟩
            · rw [Bool.not_eq_true] at h1
              go_wp2_with fail
              refine (sB_any _ _ _ (by omega) he).mono ?_
              rintro e w2 ⟨rfl, rfl⟩
              by_cases h2 : sB s = true
              · go_wp2_with fail
                refine (errorf_any _ _ _ _ _).mono ?_
                rintro e w2 ⟨rfl, rfl⟩
                go_wp2
                go_ret2
                exact Or.inr ⟨(by rw [lpl_dots s hp hq, if_neg HK.out, h1, h2]; rfl : Pl.lpl s.data.toList = none), _, rfl, below1 _ _⟩
              · rw [Bool.not_eq_true] at h2
                go_wp2_with fail
                refine (cB_any _ _ m _ (by omega) (by exact hm) he).mono ?_
                rintro e w2 ⟨rfl, rfl⟩
                by_cases h3 : cB s = true
                · go_wp2_with fail
                  refine (errorf_any _ _ _ _ _).mono ?_
                  rintro e w2 ⟨rfl, rfl⟩
                  go_wp2
                  go_ret2
                  exact Or.inr ⟨(by rw [lpl_dots s hp hq, if_neg HK.out, h1, h2, h3]; rfl : Pl.lpl s.data.toList = none), _, rfl, below1 _ _⟩
                · rw [Bool.not_eq_true] at h3
                  go_wp2
                  go_ret2
                  exact Or.inl ⟨k, (by rw [lpl_dots s hp hq, if_neg HK.out, h1, h2, h3, he.out]; rfl : Pl.lpl s.data.toList = some k), hk, rfl, rfl⟩
  · have hz : s.toList.isEmpty = true := by
      rw [Lib.toList_data, List.isEmpty_iff, ← List.length_eq_zero_iff, ← Lib.size_eq]; omega
    go_enter Try.func20, Try.ntmps20
    go_wp2_with (go_at_call 21; refine (errorf_any _ _ _ _ _).mono ?_; rintro e w' ⟨rfl, rfl⟩)
    go_ret2
    exact Or.inr ⟨lpl_empty s hp, _, rfl, below1 _ _⟩
end Go.Proofs.Qxb6600667a.Wk
