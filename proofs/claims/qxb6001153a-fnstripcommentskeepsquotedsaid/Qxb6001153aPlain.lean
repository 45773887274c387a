import Derived.Lib.CutLaws
namespace Go.Proofs.Qxb6001153a.Pl
open Go

theorem index_cons (x : UInt8) (t sub : List UInt8) : Lib.index (x :: t) sub = if sub.isPrefixOf (x :: t) then 0 else if Lib.index t sub == -1 then -1 else Lib.index t sub + 1 := rfl

/-! ### quotedLength -/
/-- How many bytes behind the opening mark till behind the closing one. -/
def qs : List UInt8 → Option Nat
  | [] => none
  | [x] => if x = 34 then some 1 else none
  | x :: y :: t => if x = 92 then (qs t).map (· + 2) else if x = 34 then some 1 else (qs (y :: t)).map (· + 1)

def qlen (s : List UInt8) : Nat := match qs s.tail with | some k => k + 1 | none => s.length
def qclosed (s : List UInt8) : Bool := (qs s.tail).isSome

theorem qs_le : ∀ (t : List UInt8) (k : Nat), qs t = some k → 1 ≤ k ∧ k ≤ t.length
  | [], k, h => by simp [qs] at h
  | [x], k, h => by
    simp only [qs] at h
    split at h
    · simp at h; subst h; simp
    · simp at h
  | x :: y :: t, k, h => by
    simp only [qs] at h
    split at h
    · obtain ⟨j, hj, rfl⟩ := Option.map_eq_some_iff.1 h
      have := qs_le t j hj
      simp only [List.length_cons]; omega
    · split at h
      · simp at h; subst h; simp
      · obtain ⟨j, hj, rfl⟩ := Option.map_eq_some_iff.1 h
        have := qs_le (y :: t) j hj
        simp only [List.length_cons] at this ⊢; omega

theorem qs_pre : ∀ (t : List UInt8) (k : Nat) (r : List UInt8), qs t = some k → qs (t.take k ++ r) = some k
  | [], k, r, h => by simp [qs] at h
  | [x], k, r, h => by
    simp only [qs] at h
    split at h
    · rename_i hx
      simp at h; subst h; subst hx
      cases r <;> simp [qs]
    · simp at h
  | x :: y :: t, k, r, h => by
    simp only [qs] at h
    split at h
    · rename_i hx
      obtain ⟨j, hj, rfl⟩ := Option.map_eq_some_iff.1 h
      have := qs_pre t j r hj
      simp only [List.take_succ_cons, List.cons_append, qs, if_pos hx, this, Option.map_some]
    · rename_i hx
      split at h
      · rename_i hx2
        simp at h; subst h; subst hx2
        cases r <;> simp [qs]
      · rename_i hx2
        obtain ⟨j, hj, rfl⟩ := Option.map_eq_some_iff.1 h
        have ih := qs_pre (y :: t) j r hj
        have hj1 := (qs_le _ _ hj).1
        obtain ⟨i, rfl⟩ : ∃ i, j = i + 1 := ⟨j - 1, by omega⟩
        simp only [List.take_succ_cons, List.cons_append] at ih ⊢
        simp only [qs, if_neg hx, if_neg hx2, ih, Option.map_some]

theorem qlen_le (s : List UInt8) : qlen s ≤ s.length := by
  unfold qlen
  split
  · rename_i k hk
    have := qs_le _ _ hk
    cases s with
    | nil => simp [qs] at hk
    | cons x t => simp only [List.tail_cons, List.length_cons] at this ⊢; omega
  · exact Nat.le_refl _

theorem qlen_pos (s : List UInt8) (h : s ≠ []) : 1 ≤ qlen s := by
  unfold qlen
  split
  · omega
  · cases s with
    | nil => exact absurd rfl h
    | cons x t => simp

/-! ### stripComments: what it adds to the text from here on, and the two bools at its end -/
def strip : Nat → List UInt8 → Bool → Bool → List UInt8 × Bool × Bool
  | 0, _, o, op => ([], o, op)
  | _ + 1, [], o, op => ([], o, op)
  | f + 1, x :: t, true, op =>
    if Lib.index (x :: t) [42, 47] < 0 then ([], true, op)
    else (32 :: (strip f ((x :: t).drop ((Lib.index (x :: t) [42, 47]).toNat + 2)) false false).1, (strip f ((x :: t).drop ((Lib.index (x :: t) [42, 47]).toNat + 2)) false false).2)
  | f + 1, x :: t, false, op =>
    if x = 34 then ((x :: t).take (qlen (x :: t)) ++ (strip f ((x :: t).drop (qlen (x :: t))) false op).1, (strip f ((x :: t).drop (qlen (x :: t))) false op).2)
    else if Lib.hasPrefix (x :: t) [47, 47] = true then ([], false, op)
    else if Lib.hasPrefix (x :: t) [47, 42] = true then strip f ((x :: t).drop 2) true true
    else (x :: (strip f t false op).1, (strip f t false op).2)

theorem strip_nil (f : Nat) (o op : Bool) : strip f [] o op = ([], o, op) := by cases f <;> rfl

theorem strip_fuel : ∀ (f g : Nat) (l : List UInt8) (o op : Bool), l.length ≤ f → l.length ≤ g → strip f l o op = strip g l o op
  | f, g, [], o, op, _, _ => by rw [strip_nil, strip_nil]
  | 0, _, x :: t, o, op, h, _ => by simp at h
  | _, 0, x :: t, o, op, _, h => by simp at h
  | f + 1, g + 1, x :: t, true, op, hf, hg => by
    simp only [strip]
    rw [strip_fuel f g _ false false (by simp at hf ⊢; omega) (by simp at hg ⊢; omega)]
  | f + 1, g + 1, x :: t, false, op, hf, hg => by
    simp only [strip]
    have hq := qlen_pos (x :: t) (by simp)
    rw [strip_fuel f g ((x :: t).drop (qlen (x :: t))) false op (by simp at hf ⊢; omega) (by simp at hg ⊢; omega),
      strip_fuel f g ((x :: t).drop 2) true true (by simp at hf ⊢; omega) (by simp at hg ⊢; omega),
      strip_fuel f g t false op (by simpa using hf) (by simpa using hg)]

/-- What stripComments returns. -/
def sc (l : List UInt8) (o : Bool) : List UInt8 × Bool × Bool := strip l.length l o false

theorem hasPrefix_two (x a b : UInt8) (t : List UInt8) : Lib.hasPrefix (x :: t) [a, b] = (x == a && t.head? == some b) := by
  unfold Lib.hasPrefix
  cases t with
  | nil => simp [List.isPrefixOf]
  | cons y t =>
    simp only [List.isPrefixOf, Bool.and_true, List.head?_cons]
    have e1 : (a == x) = (x == a) := by rw [Bool.eq_iff_iff, beq_iff_eq, beq_iff_eq]; exact eq_comm
    have e2 : (b == y) = (some y == some b) := by rw [Bool.eq_iff_iff, beq_iff_eq, beq_iff_eq, Option.some.injEq]; exact eq_comm
    rw [e1, e2]

/-! ### LAW: a line without a slash comes back as it is -/
theorem strip_noslash : ∀ (f : Nat) (l : List UInt8) (op : Bool), l.length ≤ f → (47 : UInt8) ∉ l → strip f l false op = (l, false, op)
  | f, [], op, _, _ => strip_nil f false op
  | 0, x :: t, _, h, _ => by simp at h
  | f + 1, x :: t, op, h, hn => by
    have hq := qlen_pos (x :: t) (by simp)
    have hx : x ≠ 47 := fun e => hn (by simp [e])
    simp only [strip]
    rw [strip_noslash f ((x :: t).drop (qlen (x :: t))) op (by simp at h ⊢; omega) (fun e => hn (List.mem_of_mem_drop e)),
      strip_noslash f t op (by simpa using h) (fun e => hn (List.mem_cons_of_mem _ e)), hasPrefix_two, hasPrefix_two]
    simp [hx]

theorem sc_noslash (l : List UInt8) (h : (47 : UInt8) ∉ l) : sc l false = (l, false, false) := strip_noslash _ l false (Nat.le_refl _) h

/-! ### LAW: a quoted string is kept -/
theorem sc_unclosed (t : List UInt8) (h : qclosed (34 :: t) = false) : sc (34 :: t) false = (34 :: t, false, false) := by
  have hq : qlen (34 :: t) = t.length + 1 := by
    unfold qclosed at h; unfold qlen
    simp only [List.tail_cons, Option.isSome_eq_false_iff, Option.isNone_iff_eq_none] at h ⊢
    rw [h]; rfl
  unfold sc
  simp only [List.length_cons, strip, hq]
  simp [strip_nil]

theorem sc_closed (t r : List UInt8) (h : qclosed (34 :: t) = true) :
    sc ((34 :: t).take (qlen (34 :: t)) ++ r) false = ((34 :: t).take (qlen (34 :: t)) ++ (sc r false).1, (sc r false).2) := by
  unfold qclosed at h
  rw [List.tail_cons, Option.isSome_iff_exists] at h
  obtain ⟨k, hk⟩ := h
  have hq : qlen (34 :: t) = k + 1 := by unfold qlen; rw [List.tail_cons, hk]
  have hle := qs_le _ _ hk
  rw [hq, List.take_succ_cons, List.cons_append]
  have hq2 : qlen (34 :: (t.take k ++ r)) = k + 1 := by unfold qlen; rw [List.tail_cons, qs_pre t k r hk]
  unfold sc
  have hd : (34 :: (t.take k ++ r)).drop (k + 1) = r := by
    rw [List.drop_succ_cons, List.drop_append_of_le_length (by simp; omega)]
    simp
  have ht : (34 :: (t.take k ++ r)).take (k + 1) = 34 :: t.take k := by
    rw [List.take_succ_cons, List.take_append_of_le_length (by simp; omega), List.take_take, Nat.min_self]
  simp only [List.length_cons, strip, hq2, hd, ht]
  rw [strip_fuel _ r.length r false false (by simp) (Nat.le_refl _)]
  simp

/-! ### LAW: the shape -/
theorem strip_len : ∀ (f : Nat) (l : List UInt8) (o op : Bool), (strip f l o op).1.length ≤ l.length
  | 0, _, _, _ => by simp [strip]
  | f + 1, [], _, _ => by simp [strip]
  | f + 1, x :: t, true, op => by
    simp only [strip]
    split
    · simp
    · have := strip_len f ((x :: t).drop ((Lib.index (x :: t) [42, 47]).toNat + 2)) false false
      simp only [List.length_drop, List.length_cons] at this ⊢
      omega
  | f + 1, x :: t, false, op => by
    simp only [strip]
    have hq := qlen_le (x :: t)
    split
    · have := strip_len f ((x :: t).drop (qlen (x :: t))) false op
      simp only [List.length_append, List.length_take, List.length_drop] at this ⊢
      omega
    · split
      · simp
      · split
        · have := strip_len f ((x :: t).drop 2) true true
          simp only [List.length_drop, List.length_cons] at this ⊢
          omega
        · have := strip_len f t false op
          simp only [List.length_cons]; omega

theorem strip_opened : ∀ (f : Nat) (l : List UInt8) (o op : Bool), (op = true → o = true) → (strip f l o op).2.2 = true → (strip f l o op).2.1 = true
  | 0, _, o, op, h => h
  | f + 1, [], o, op, h => h
  | f + 1, x :: t, true, op, h => by
    simp only [strip]
    split
    · exact fun _ => rfl
    · exact strip_opened f _ false false (by simp)
  | f + 1, x :: t, false, op, h => by
    have hop : op = false := by cases op <;> simp_all
    subst hop
    simp only [strip]
    split
    · exact strip_opened f _ false false (by simp)
    · split
      · simp
      · split
        · exact strip_opened f _ true true (by simp)
        · exact strip_opened f _ false false (by simp)

/-- zzHasCloserEsvB1 -/
def hasCl : List UInt8 → Bool
  | x :: y :: t => (x == 42 && y == 47) || hasCl (y :: t)
  | _ => false

theorem index_noCl : ∀ (l : List UInt8), hasCl l = false → Lib.index l [42, 47] = -1
  | [], _ => rfl
  | [x], _ => by rw [index_cons]; simp [List.isPrefixOf, Lib.index]
  | x :: y :: t, h => by
    simp only [hasCl, Bool.or_eq_false_iff] at h
    rw [index_cons, index_noCl (y :: t) h.2]
    have : [42, 47].isPrefixOf (x :: y :: t) = false := by
      have h1 := h.1
      rw [Bool.eq_false_iff] at h1 ⊢
      intro e
      apply h1
      simp [List.isPrefixOf] at e ⊢
      exact ⟨e.1.symm, e.2.symm⟩
    rw [this]; rfl

theorem sc_len (l : List UInt8) (o : Bool) : (sc l o).1.length ≤ l.length := strip_len _ _ _ _
theorem sc_opened (l : List UInt8) (o : Bool) : (sc l o).2.2 = true → (sc l o).2.1 = true := strip_opened _ _ _ _ (by simp)
theorem sc_noCl (l : List UInt8) (h : hasCl l = false) : sc l true = ([], true, false) := by
  unfold sc
  cases l with
  | nil => rfl
  | cons x t =>
    simp only [List.length_cons, strip]
    rw [index_noCl _ h]
    rfl
end Go.Proofs.Qxb6001153a.Pl
