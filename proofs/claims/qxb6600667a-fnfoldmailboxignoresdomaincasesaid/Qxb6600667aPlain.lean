import Derived.Lib.CutLaws
namespace Go.Proofs.Qxb6600667a.Pl
open Go

theorem index_cons (x : UInt8) (t sub : List UInt8) : Lib.index (x :: t) sub = if sub.isPrefixOf (x :: t) then 0 else if Lib.index t sub == -1 then -1 else Lib.index t sub + 1 := rfl

/-- atext. -/
def syms : List UInt8 := [33, 35, 36, 37, 38, 39, 42, 43, 45, 47, 61, 63, 94, 95, 96, 123, 124, 125, 126]
def atB (c : UInt8) : Bool := (97 ≤ c && c ≤ 122) || (65 ≤ c && c ≤ 90) || (48 ≤ c && c ≤ 57) || syms.contains c

/-! ### the Quoted-string: the program's reader -/
def qsl : List UInt8 → Option Nat
  | [] => none
  | [x] => if x = 34 then some 1 else none
  | x :: y :: t => if x = 34 then some 1 else if x = 92 ∧ 32 ≤ y ∧ y ≤ 126 then (qsl t).map (· + 2) else if x < 32 ∨ 126 < x ∨ x = 92 then none else (qsl (y :: t)).map (· + 1)

/-! ### the Quoted-string: the law's own reader: how many bytes till the at sign, the closing mark with them -/
def qend : Bool → List UInt8 → Option Nat
  | _, [] => none
  | esc, x :: t => if x < 32 ∨ 126 < x then none else if esc = true then (qend false t).map (· + 1) else if x = 92 then (qend true t).map (· + 1) else if x = 34 then (if t.head? = some 64 then some 1 else none) else (qend false t).map (· + 1)

theorem q34 (x : UInt8) (h : x = 34) : ¬ (x < 32 ∨ 126 < x) := by subst h; decide
theorem q92 (x : UInt8) (h : x = 92) : ¬ (x < 32 ∨ 126 < x) := by subst h; decide

/-- The two readers of a Quoted-string agree. -/
theorem quoted : ∀ (t : List UInt8), qend false t = (qsl t).bind (fun k => if (t.drop k).head? = some 64 then some k else none)
  | [] => rfl
  | [x] => by
    unfold qend qsl
    by_cases h : x = 34
    · rw [if_neg (q34 x h), if_neg (by simp), if_neg (by subst h; decide), if_pos h, if_pos h]; rfl
    · rw [if_neg h, if_neg h]
      simp only [Bool.false_eq_true, qend, Option.map_none, ite_self, Option.bind_none]
  | x :: y :: t => by
    have ih1 := quoted t
    have ih2 := quoted (y :: t)
    rw [qend, qsl]
    by_cases h : x = 34
    · rw [if_neg (q34 x h), if_neg (by simp), if_neg (by subst h; decide), if_pos h, if_pos h]
      simp
    · rw [if_neg h, if_neg h]
      by_cases h92 : x = 92
      · rw [if_neg (q92 x h92), if_neg (by simp), if_pos h92, qend]
        by_cases hy : y < 32 ∨ 126 < y
        · rw [if_pos hy, if_neg (by rintro ⟨_, h1, h2⟩; rcases hy with h3 | h3 <;> simp [UInt8.lt_iff_toNat_lt, UInt8.le_iff_toNat_le] at h1 h2 h3 <;> omega), if_pos (by simp [h92])]
          rfl
        · rw [if_neg hy, if_pos rfl, if_pos ⟨h92, by simp [UInt8.lt_iff_toNat_lt, UInt8.le_iff_toNat_le] at hy ⊢; omega, by simp [UInt8.lt_iff_toNat_lt, UInt8.le_iff_toNat_le] at hy ⊢; omega⟩, ih1]
          cases hq : qsl t with
          | none => rfl
          | some k => simp only [Option.map_some, Option.bind_some, List.drop_succ_cons]; split <;> rfl
      · by_cases hx : x < 32 ∨ 126 < x
        · rw [if_pos hx, if_neg (by simp [h92]), if_pos (by rcases hx with h1 | h1 <;> simp [h1])]
          rfl
        · rw [if_neg hx, if_neg (by simp), if_neg h92, if_neg (by simp [h92]), if_neg (by intro h1; rcases h1 with h1 | h1 | h1 <;> simp_all), ih2]
          cases hq : qsl (y :: t) with
          | none => rfl
          | some k => simp only [Option.map_some, Option.bind_some, List.drop_succ_cons]; split <;> rfl

/-! ### the Dot-string: the law's own reader -/
def dotM : Bool → List UInt8 → Option Nat
  | _, [] => none
  | st, c :: t => if atB c = true then (dotM false t).map (· + 1) else if st = true then none else if c = 46 then (dotM true t).map (· + 1) else if c = 64 then some 0 else none

def dotB (c : UInt8) : Bool := atB c || c == 46
def bad : Bool → List UInt8 → Bool
  | st, [] => st
  | st, c :: t => if c = 46 then st || bad true t else bad false t

theorem at46 : atB 46 = false := by decide
theorem at64 : atB 64 = false := by decide
theorem dot64 : dotB 64 = false := by decide

theorem dot_eq : ∀ (l : List UInt8) (st : Bool), dotM st l = if bad st (l.takeWhile dotB) = true then none else if (l.drop (l.takeWhile dotB).length).head? = some 64 then some (l.takeWhile dotB).length else none
  | [], st => by cases st <;> rfl
  | c :: t, st => by
    have ih1 := dot_eq t false
    have ih2 := dot_eq t true
    rw [dotM]
    by_cases ha : atB c = true
    · have hd : dotB c = true := by simp [dotB, ha]
      have h46 : c ≠ 46 := fun e => by rw [e, at46] at ha; cases ha
      rw [if_pos ha, List.takeWhile_cons_of_pos hd, ih1]
      simp only [bad, if_neg h46, List.length_cons, List.drop_succ_cons]
      split
      · rfl
      · split <;> rfl
    · rw [if_neg ha]
      by_cases h46 : c = 46
      · have hd : dotB c = true := by simp [dotB, h46]
        rw [List.takeWhile_cons_of_pos hd]
        simp only [bad, if_pos h46, List.length_cons, List.drop_succ_cons]
        cases st with
        | true => simp
        | false =>
          rw [ih2]
          simp only [Bool.false_eq_true, if_false, Bool.false_or]
          split
          · rfl
          · split <;> rfl
      · have hd : ¬ dotB c = true := by simp [dotB, h46, ha]
        rw [List.takeWhile_cons_of_neg hd]
        simp only [bad, List.length_nil, List.drop_zero, List.head?_cons, Option.some.injEq, if_neg h46]

def dots : List UInt8 := [46]
def dots2 : List UInt8 := [46, 46]

theorem contains_cons (x : UInt8) (t sub : List UInt8) : Lib.contains (x :: t) sub = (sub.isPrefixOf (x :: t) || Lib.contains t sub) := by
  unfold Lib.contains
  have hge := Lib.index_ge t sub
  rw [index_cons]
  by_cases hp : sub.isPrefixOf (x :: t) = true
  · simp [hp]
  · by_cases h0 : Lib.index t sub = -1
    · simp [hp, h0]
    · have : (Lib.index t sub == -1) = false := by rw [beq_eq_false_iff_ne]; exact h0
      rw [if_neg hp, this]
      simp only [Bool.false_eq_true, if_false]
      rw [Bool.eq_iff_iff]
      simp [hp]
      omega

theorem suffix_cons (x y : UInt8) (t : List UInt8) : Lib.hasSuffix (x :: y :: t) [46] = Lib.hasSuffix (y :: t) [46] := by
  unfold Lib.hasSuffix
  rw [Bool.eq_iff_iff, List.isSuffixOf_iff_suffix, List.isSuffixOf_iff_suffix, List.suffix_cons_iff]
  constructor
  · rintro (h | h)
    · simp at h
    · exact h
  · exact Or.inr

theorem bad_cons (st : Bool) (c : UInt8) (t : List UInt8) : bad st (c :: t) = if c = 46 then st || bad true t else bad false t := rfl

theorem bad_eq : ∀ (l : List UInt8), bad false l = (Lib.hasSuffix l [46] || Lib.contains l [46, 46]) ∧ bad true l = (l.isEmpty || Lib.hasPrefix l [46] || Lib.hasSuffix l [46] || Lib.contains l [46, 46])
  | [] => by decide
  | [c] => by
    by_cases h : c = 46
    · subst h; decide
    · have h' : (46 : UInt8) ≠ c := fun e => h e.symm
      simp [bad, h, h', Lib.hasSuffix, Lib.hasPrefix, List.isSuffixOf, List.isPrefixOf, Lib.contains, Lib.index]
  | c :: y :: t => by
    obtain ⟨ih1, ih2⟩ := bad_eq (y :: t)
    have e0 : [46, 46].isPrefixOf (c :: y :: t) = (c == 46 && y == 46) := by
      simp only [List.isPrefixOf, Bool.and_true]
      have e1 : ((46 : UInt8) == c) = (c == 46) := by rw [Bool.eq_iff_iff, beq_iff_eq, beq_iff_eq]; exact eq_comm
      have e2 : ((46 : UInt8) == y) = (y == 46) := by rw [Bool.eq_iff_iff, beq_iff_eq, beq_iff_eq]; exact eq_comm
      rw [e1, e2]
    have e3 : ∀ (z : UInt8) (r : List UInt8), Lib.hasPrefix (z :: r) [46] = (z == 46) := fun z r => by
      unfold Lib.hasPrefix
      have e2 : ((46 : UInt8) == z) = (z == 46) := by rw [Bool.eq_iff_iff, beq_iff_eq, beq_iff_eq]; exact eq_comm
      simp only [List.isPrefixOf, Bool.and_true, e2]
    rw [suffix_cons, contains_cons, e0, e3]
    rw [e3] at ih2
    rw [bad_cons false c (y :: t), bad_cons true c (y :: t)]
    by_cases h : c = 46
    · subst h
      simp only [ih2, if_true, List.isEmpty_cons, Bool.false_or, beq_self_eq_true, Bool.true_and]
      constructor
      · generalize (y == 46) = A; generalize Lib.hasSuffix (y :: t) [46] = B; generalize Lib.contains (y :: t) [46, 46] = C
        revert A B C; decide
      · simp
    · have hc : (c == 46) = false := by simp [h]
      simp only [if_neg h, ih1, hc, List.isEmpty_cons, Bool.false_or, Bool.false_and, and_self]

/-! ### the program's reader of a Local-part and '@' -/
def lpl (l : List UInt8) : Option Nat :=
  if l = [] then none
  else if l.head? = some 34 then (qsl l.tail).map (· + 1)
  else if (l.takeWhile dotB).length = 0 then none
  else if (Lib.hasPrefix (l.takeWhile dotB) [46] || Lib.hasSuffix (l.takeWhile dotB) [46] || Lib.contains (l.takeWhile dotB) [46, 46]) = true then none
  else some (l.takeWhile dotB).length
def spl (l : List UInt8) : Option Nat := (lpl l).bind (fun n => if (l.drop n).head? = some 64 then some n else none)
/-! ### the law's own -/
def lpe (l : List UInt8) : Option Nat := if l.head? = some 34 then (qend false l.tail).map (· + 1) else dotM true l

theorem spl_eq (l : List UInt8) : spl l = lpe l := by
  unfold spl lpe lpl
  cases l with
  | nil => rfl
  | cons x t =>
    rw [if_neg (by simp)]
    simp only [List.head?_cons, Option.some.injEq, List.tail_cons]
    by_cases hx : x = 34
    · rw [if_pos hx, if_pos hx, quoted]
      cases qsl t with
      | none => rfl
      | some k => simp only [Option.map_some, Option.bind_some, List.drop_succ_cons]; split <;> rfl
    · rw [if_neg hx, if_neg hx, dot_eq, (bad_eq _).2]
      generalize hD : (x :: t).takeWhile dotB = D
      by_cases h0 : D.length = 0
      · have : D = [] := by simpa using h0
        rw [if_pos h0, this]; rfl
      · have : D.isEmpty = false := by cases D <;> simp_all
        rw [if_neg h0, this, Bool.false_or]
        split
        · rfl
        · rfl

/-! ### what is read lies in the head -/
theorem qend_pre : ∀ (t : List UInt8) (b : Bool) (k : Nat) (r : List UInt8), qend b t = some k → t[k]? = some 64 ∧ qend b (t.take (k + 1) ++ r) = some k
  | [], b, k, r, h => by simp [qend] at h
  | x :: t, b, k, r, h => by
    rw [qend] at h
    have step : ∀ (b' : Bool), (qend b' t).map (· + 1) = some k → ∃ j, k = j + 1 ∧ t[j]? = some 64 ∧ qend b' (t.take (j + 1) ++ r) = some j := fun b' h' => by
      obtain ⟨j, hj, rfl⟩ := Option.map_eq_some_iff.1 h'
      obtain ⟨h1, h2⟩ := qend_pre t b' j r hj
      exact ⟨j, rfl, h1, h2⟩
    by_cases hx : x < 32 ∨ 126 < x
    · rw [if_pos hx] at h; cases h
    · rw [if_neg hx] at h
      by_cases hb : b = true
      · rw [if_pos hb] at h
        obtain ⟨j, rfl, h1, h2⟩ := step false h
        refine ⟨by simpa using h1, ?_⟩
        rw [List.take_succ_cons, List.cons_append, qend, if_neg hx, if_pos hb, h2]; rfl
      · rw [if_neg hb] at h
        by_cases h92 : x = 92
        · rw [if_pos h92] at h
          obtain ⟨j, rfl, h1, h2⟩ := step true h
          refine ⟨by simpa using h1, ?_⟩
          rw [List.take_succ_cons, List.cons_append, qend, if_neg hx, if_neg hb, if_pos h92, h2]; rfl
        · rw [if_neg h92] at h
          by_cases h34 : x = 34
          · rw [if_pos h34] at h
            by_cases h64 : t.head? = some 64
            · rw [if_pos h64] at h
              have hk : k = 1 := by simpa using h.symm
              subst hk
              cases t with
              | nil => simp at h64
              | cons y t =>
                refine ⟨by simpa using h64, ?_⟩
                rw [List.take_succ_cons, List.cons_append, qend, if_neg hx, if_neg hb, if_neg h92, if_pos h34, if_pos (by simpa using h64)]
            · rw [if_neg h64] at h; cases h
          · rw [if_neg h34] at h
            obtain ⟨j, rfl, h1, h2⟩ := step false h
            refine ⟨by simpa using h1, ?_⟩
            rw [List.take_succ_cons, List.cons_append, qend, if_neg hx, if_neg hb, if_neg h92, if_neg h34, h2]; rfl

theorem dotM_pre : ∀ (t : List UInt8) (b : Bool) (k : Nat) (r : List UInt8), dotM b t = some k → t[k]? = some 64 ∧ dotM b (t.take (k + 1) ++ r) = some k
  | [], b, k, r, h => by simp [dotM] at h
  | x :: t, b, k, r, h => by
    rw [dotM] at h
    have step : ∀ (b' : Bool), (dotM b' t).map (· + 1) = some k → ∃ j, k = j + 1 ∧ t[j]? = some 64 ∧ dotM b' (t.take (j + 1) ++ r) = some j := fun b' h' => by
      obtain ⟨j, hj, rfl⟩ := Option.map_eq_some_iff.1 h'
      obtain ⟨h1, h2⟩ := dotM_pre t b' j r hj
      exact ⟨j, rfl, h1, h2⟩
    by_cases ha : atB x = true
    · rw [if_pos ha] at h
      obtain ⟨j, rfl, h1, h2⟩ := step false h
      refine ⟨by simpa using h1, ?_⟩
      rw [List.take_succ_cons, List.cons_append, dotM, if_pos ha, h2]; rfl
    · rw [if_neg ha] at h
      by_cases hb : b = true
      · rw [if_pos hb] at h; cases h
      · rw [if_neg hb] at h
        by_cases h46 : x = 46
        · rw [if_pos h46] at h
          obtain ⟨j, rfl, h1, h2⟩ := step true h
          refine ⟨by simpa using h1, ?_⟩
          rw [List.take_succ_cons, List.cons_append, dotM, if_neg ha, if_neg hb, if_pos h46, h2]; rfl
        · rw [if_neg h46] at h
          by_cases h64 : x = 64
          · rw [if_pos h64] at h
            have hk : k = 0 := by simpa using h.symm
            subst hk
            refine ⟨by simpa using h64, ?_⟩
            rw [List.take_succ_cons, List.cons_append, dotM, if_neg ha, if_neg hb, if_neg h46, if_pos h64]
          · rw [if_neg h64] at h; cases h

theorem lpe_pre (l : List UInt8) (k : Nat) (r : List UInt8) (h : lpe l = some k) : l[k]? = some 64 ∧ lpe (l.take (k + 1) ++ r) = some k := by
  unfold lpe at h ⊢
  cases l with
  | nil => simp [dotM] at h
  | cons x t =>
    simp only [List.head?_cons, Option.some.injEq, List.tail_cons, List.take_succ_cons, List.cons_append] at h ⊢
    by_cases hx : x = 34
    · rw [if_pos hx] at h ⊢
      obtain ⟨j, hj, rfl⟩ := Option.map_eq_some_iff.1 h
      obtain ⟨h1, h2⟩ := qend_pre t false j r hj
      exact ⟨by simpa using h1, by rw [h2]; rfl⟩
    · rw [if_neg hx] at h ⊢
      have := dotM_pre (x :: t) true k r h
      simpa only [List.take_succ_cons, List.cons_append] using this

/-! ### folding -/
def low (c : UInt8) : UInt8 := if 65 ≤ c ∧ c ≤ 90 then c + 32 else c
def swp (c : UInt8) : UInt8 := if (97 ≤ c ∧ c ≤ 122) ∨ (65 ≤ c ∧ c ≤ 90) then c ^^^ 32 else c
def foldAt (n : Nat) (l : List UInt8) : List UInt8 := l.take (n + 1) ++ (l.drop (n + 1)).map low
def fold (l : List UInt8) : List UInt8 := match lpe l with | some n => foldAt n l | none => l

theorem allB (p : UInt8 → Bool) (h : ∀ n : Fin 256, p (UInt8.ofNat n.val) = true) (c : UInt8) : p c = true := by
  have := h ⟨c.toNat, c.toNat_lt⟩
  simpa using this
theorem low_low (c : UInt8) : low (low c) = low c := of_decide_eq_true (allB (fun c => decide (low (low c) = low c)) (by decide +kernel) c)
theorem low_swp (c : UInt8) : low (swp c) = low c := of_decide_eq_true (allB (fun c => decide (low (swp c) = low c)) (by decide +kernel) c)
theorem low_up (c : UInt8) : ¬ (65 ≤ low c ∧ low c ≤ 90) := of_decide_eq_true (allB (fun c => decide (¬ (65 ≤ low c ∧ low c ≤ 90))) (by decide +kernel) c)

theorem fold_length (l : List UInt8) : (fold l).length = l.length := by
  unfold fold foldAt
  split
  · rename_i n _
    rw [List.length_append, List.length_map, ← List.length_append, List.take_append_drop]
  · rfl

theorem lpe_lt (l : List UInt8) (k : Nat) (h : lpe l = some k) : k < l.length := by
  have := (lpe_pre l k [] h).1
  exact (List.getElem?_eq_some_iff.1 this).1

theorem fold_fold (l : List UInt8) : fold (fold l) = fold l := by
  cases h : lpe l with
  | none => have : fold l = l := by unfold fold; rw [h]
            rw [this, this]
  | some n =>
    have hl := lpe_lt l n h
    have e : fold l = foldAt n l := by unfold fold; rw [h]
    have h2 : lpe (foldAt n l) = some n := (lpe_pre l n _ h).2
    rw [e]
    unfold fold
    rw [h2]
    show foldAt n (foldAt n l) = foldAt n l
    unfold foldAt
    have t1 : (l.take (n + 1)).length = n + 1 := by simp; omega
    rw [List.take_append_of_le_length (by omega), List.take_of_length_le (by omega), List.drop_append_of_le_length (by omega), List.drop_of_length_le (by omega), List.nil_append, List.map_map]
    congr 1
    apply List.map_congr_left
    intro c _
    exact low_low c

theorem fold_get (l : List UInt8) (i : Nat) (a : UInt8) (h : l[i]? = some a) : (fold l)[i]? = some a ∨ (fold l)[i]? = some (low a) := by
  unfold fold
  split
  · rename_i n hn
    have hl := lpe_lt l n hn
    unfold foldAt
    by_cases hi : i < n + 1
    · left
      rw [List.getElem?_append_left (by simp; omega), List.getElem?_take_of_lt hi]; exact h
    · right
      rw [List.getElem?_append_right (by simp; omega), List.getElem?_map, List.getElem?_drop]
      simp only [List.length_take]
      rw [show n + 1 + (i - min (n + 1) l.length) = i by omega, h]; rfl
  · exact Or.inl h

/-- Up to the first at sign nothing turns. -/
theorem fold_head (l : List UInt8) (i : Nat) (h : ∀ j, j < i → l[j]? ≠ some 64) : (fold l)[i]? = l[i]? := by
  unfold fold
  split
  · rename_i n hn
    have hl := lpe_lt l n hn
    have h64 := (lpe_pre l n [] hn).1
    have hi : i < n + 1 := by
      rcases Nat.lt_or_ge i (n + 1) with h1 | h1
      · exact h1
      · exact absurd h64 (h n (by omega))
    unfold foldAt
    rw [List.getElem?_append_left (by simp; omega), List.getElem?_take_of_lt hi]
  · rfl

/-- LAW 3: the address and its twin. -/
theorem fold_at (a d : List UInt8) (h : lpe (a ++ 64 :: d) = some a.length) : fold (a ++ 64 :: d) = a ++ 64 :: d.map low := by
  unfold fold
  rw [h]
  show foldAt _ _ = _
  unfold foldAt
  have e : (a ++ 64 :: d) = (a ++ [64]) ++ d := by simp
  rw [e, List.take_append_of_le_length (by simp), List.take_of_length_le (by simp), List.drop_append_of_le_length (by simp), List.drop_of_length_le (by simp)]
  simp
theorem lpe_twin (a d d' : List UInt8) (h : lpe (a ++ 64 :: d) = some a.length) : lpe (a ++ 64 :: d') = some a.length := by
  have := (lpe_pre _ _ d' h).2
  have e : (a ++ 64 :: d).take (a.length + 1) ++ d' = a ++ 64 :: d' := by
    have e : (a ++ 64 :: d) = (a ++ [64]) ++ d := by simp
    rw [e, List.take_append_of_le_length (by simp), List.take_of_length_le (by simp)]
    simp
  rw [e] at this
  exact this
theorem fold_twin (a d : List UInt8) (h : lpe (a ++ 64 :: d) = some a.length) : fold (a ++ 64 :: d.map swp) = fold (a ++ 64 :: d) := by
  rw [fold_at a d h, fold_at a _ (lpe_twin a d _ h), List.map_map]
  congr 2
  apply List.map_congr_left
  intro c _
  exact low_swp c
end Go.Proofs.Qxb6600667a.Pl
