import Derived.Lib.CutLaws
namespace Go.Proofs.Qxb6000862a.Pl
open Go

/-- Cut at one byte, plainly. -/
def cut1 (c : UInt8) : List UInt8 → List UInt8 × List UInt8 × Bool
  | [] => ([], [], false)
  | x :: t => if x = c then ([], t, true) else (x :: (cut1 c t).1, (cut1 c t).2.1, (cut1 c t).2.2)

theorem index_cons (x : UInt8) (t sub : List UInt8) : Lib.index (x :: t) sub = if sub.isPrefixOf (x :: t) then 0 else if Lib.index t sub == -1 then -1 else Lib.index t sub + 1 := rfl

theorem cut_one (c : UInt8) (l : List UInt8) : Lib.cut l [c] = cut1 c l := by
  induction l with
  | nil => rfl
  | cons x t ih =>
    by_cases h : x = c
    · subst h
      simp [cut1, Lib.cut, Lib.index, List.isPrefixOf]
    · have hp : [c].isPrefixOf (x :: t) = false := by simp [List.isPrefixOf]; exact fun e => h e.symm
      simp only [cut1, if_neg h, ← ih]
      unfold Lib.cut
      have hge := Lib.index_ge t [c]
      by_cases h0 : Lib.index t [c] = -1
      · have : Lib.index (x :: t) [c] = -1 := by rw [index_cons, hp]; simp [h0]
        rw [this, h0]; simp
      · have e1 : Lib.index (x :: t) [c] = Lib.index t [c] + 1 := by
          rw [index_cons, hp]
          have : (Lib.index t [c] == -1) = false := by rw [beq_eq_false_iff_ne]; exact h0
          simp [this]
        obtain ⟨n, hn⟩ : ∃ n : Nat, Lib.index t [c] = n := ⟨(Lib.index t [c]).toNat, by omega⟩
        rw [e1, hn]
        rw [if_pos (by omega), if_pos (by omega)]
        have : ((n : Int) + 1).toNat = n + 1 := by omega
        rw [this]
        simp

theorem cut1_length (c : UInt8) (l : List UInt8) : (cut1 c l).1.length + (cut1 c l).2.1.length + (if (cut1 c l).2.2 then 1 else 0) = l.length := by
  induction l with
  | nil => rfl
  | cons x t ih =>
    by_cases h : x = c
    · simp [cut1, h]
    · simp only [cut1, if_neg h, List.length_cons]; omega

theorem cut1_rest_lt (c : UInt8) (l : List UInt8) (h : l ≠ []) : (cut1 c l).2.1.length < l.length := by
  cases l with
  | nil => exact absurd rfl h
  | cons x t =>
    have := cut1_length c t
    by_cases hx : x = c
    · simp [cut1, hx]
    · simp only [cut1, if_neg hx, List.length_cons]; omega

/-- No c in the head of a cut. -/
theorem cut1_head (c : UInt8) (l : List UInt8) : c ∉ (cut1 c l).1 := by
  induction l with
  | nil => simp [cut1]
  | cons x t ih =>
    by_cases h : x = c
    · simp [cut1, h]
    · simp only [cut1, if_neg h, List.mem_cons, not_or]; exact ⟨fun e => h e.symm, ih⟩

/-- Cut at a text that is built so. -/
theorem cut1_at (c : UInt8) (a b : List UInt8) (h : c ∉ a) : cut1 c (a ++ c :: b) = (a, b, true) := by
  induction a with
  | nil => simp [cut1]
  | cons x t ih =>
    simp only [List.mem_cons, not_or] at h
    simp only [List.cons_append, cut1, if_neg (fun e : x = c => h.1 e.symm), ih h.2]

/-- strings.Contains at one byte. -/
theorem contains_one (c : UInt8) (l : List UInt8) : Lib.contains l [c] = decide (c ∈ l) := by
  unfold Lib.contains
  congr 1
  induction l with
  | nil => simp [Lib.index]
  | cons x t ih =>
    have hge := Lib.index_ge t [c]
    by_cases h : x = c
    · subst h; simp [Lib.index, List.isPrefixOf]
    · have hp : [c].isPrefixOf (x :: t) = false := by simp [List.isPrefixOf]; exact fun e => h e.symm
      have hc : (c ∈ x :: t) ↔ c ∈ t := by
        rw [List.mem_cons]; exact ⟨fun e => e.elim (fun e1 => absurd e1.symm h) id, Or.inr⟩
      rw [index_cons, hp]
      rw [eq_iff_iff] at ih ⊢
      rw [hc, ← ih]
      by_cases h0 : Lib.index t [c] = -1
      · simp [h0]
      · have : (Lib.index t [c] == -1) = false := by rw [beq_eq_false_iff_ne]; exact h0
        simp [this]; omega

/-! ### The properties' text, cut into its properties -/
def segs : List UInt8 → List (List UInt8)
  | [] => []
  | x :: t => if x = 2 then [] :: segs t else (x :: (segs t).headD []) :: (segs t).tail

theorem segs_cut (l : List UInt8) (h : l ≠ []) : segs l = (cut1 2 l).1 :: segs (cut1 2 l).2.1 := by
  induction l with
  | nil => exact absurd rfl h
  | cons x t ih =>
    by_cases hx : x = 2
    · simp [segs, cut1, hx]
    · simp only [segs, cut1, if_neg hx]
      by_cases ht : t = []
      · subst ht; simp [segs, cut1]
      · rw [ih ht]; simp

theorem segs_no2 (l : List UInt8) : ∀ s ∈ segs l, (2 : UInt8) ∉ s := by
  induction l with
  | nil => simp [segs]
  | cons x t ih =>
    by_cases hx : x = 2
    · simp only [segs, if_pos hx]; intro s hs
      rcases List.mem_cons.1 hs with rfl | hs
      · simp
      · exact ih s hs
    · simp only [segs, if_neg hx]; intro s hs
      rcases List.mem_cons.1 hs with rfl | hs
      · rw [List.mem_cons, not_or]
        refine ⟨fun e => hx e.symm, ?_⟩
        cases hT : segs t with
        | nil => simp
        | cons a r => simp only [List.headD]; exact ih a (by rw [hT]; simp)
      · exact ih s (List.mem_of_mem_tail hs)

theorem segs_snoc (a t : List UInt8) (h : (2 : UInt8) ∉ a) : segs (a ++ 2 :: t) = a :: segs t := by
  rw [segs_cut _ (by simp), cut1_at 2 a t h]

def emit (name seg : List UInt8) : List UInt8 := if (cut1 1 seg).1 = name then [] else seg ++ [2]
/-- What WithProperty returns. -/
def withP (props name value : List UInt8) : List UInt8 := (segs props).flatMap (emit name) ++ (name ++ [1] ++ value ++ [2])
/-- What one property does to the value that Property has found so far. -/
def step (name v seg : List UInt8) : List UInt8 := if (cut1 1 seg).2.2 = true ∧ (cut1 1 seg).1 = name ∧ (1 : UInt8) ∉ (cut1 1 seg).2.1 then (cut1 1 seg).2.1 else v
/-- What Property returns. -/
def prop (props name : List UInt8) : List UInt8 := (segs props).foldl (step name) []

theorem segs_emits (name : List UInt8) (L : List (List UInt8)) (h : ∀ s ∈ L, (2 : UInt8) ∉ s) (t : List UInt8) :
    segs (L.flatMap (emit name) ++ t) = L.filter (fun s => decide ((cut1 1 s).1 ≠ name)) ++ segs t := by
  induction L with
  | nil => simp
  | cons s r ih =>
    have ihr := ih (fun x hx => h x (List.mem_cons_of_mem _ hx))
    by_cases hn : (cut1 1 s).1 = name
    · simp [emit, hn, ihr]
    · have h2 := h s (by simp)
      have e : (s :: r).flatMap (emit name) ++ t = s ++ 2 :: (r.flatMap (emit name) ++ t) := by simp [emit, hn]
      rw [e, segs_snoc _ _ h2, ihr]
      simp [hn]

theorem segs_withP (props name value : List UInt8) (hn2 : (2 : UInt8) ∉ name) (hv2 : (2 : UInt8) ∉ value) :
    segs (withP props name value) = (segs props).filter (fun s => decide ((cut1 1 s).1 ≠ name)) ++ [name ++ 1 :: value] := by
  unfold withP
  rw [segs_emits name _ (segs_no2 props)]
  have e : name ++ [1] ++ value ++ [2] = (name ++ 1 :: value) ++ 2 :: [] := by simp
  rw [e, segs_snoc _ _ (by simp [hn2, hv2])]
  simp [segs]

/-- LAW 1. -/
theorem reads_back (props name value : List UInt8) (hn1 : (1 : UInt8) ∉ name) (hn2 : (2 : UInt8) ∉ name) (hv1 : (1 : UInt8) ∉ value) (hv2 : (2 : UInt8) ∉ value) :
    prop (withP props name value) name = value := by
  unfold prop
  rw [segs_withP props name value hn2 hv2, List.foldl_append]
  simp only [List.foldl_cons, List.foldl_nil]
  unfold step
  rw [cut1_at 1 name value hn1]
  simp [hv1]

theorem step_other (name other v seg : List UInt8) (h : other ≠ name) (hs : (cut1 1 seg).1 = name) : step other v seg = v := by
  unfold step
  rw [if_neg]
  rintro ⟨_, e, _⟩
  exact h (e.symm.trans hs)

theorem foldl_filter (name other : List UInt8) (h : other ≠ name) (L : List (List UInt8)) : ∀ v, (L.filter (fun s => decide ((cut1 1 s).1 ≠ name))).foldl (step other) v = L.foldl (step other) v := by
  induction L with
  | nil => intro v; rfl
  | cons s r ih =>
    intro v
    by_cases hn : (cut1 1 s).1 = name
    · rw [List.filter_cons_of_neg (by simp [hn]), ih, List.foldl_cons, step_other name other v s h hn]
    · rw [List.filter_cons_of_pos (by simp [hn]), List.foldl_cons, List.foldl_cons, ih]

/-- LAW 2. -/
theorem leaves_others (props name value other : List UInt8) (hn1 : (1 : UInt8) ∉ name) (hn2 : (2 : UInt8) ∉ name) (hv2 : (2 : UInt8) ∉ value) (h : other ≠ name) :
    prop (withP props name value) other = prop props other := by
  unfold prop
  rw [segs_withP props name value hn2 hv2, List.foldl_append, foldl_filter name other h]
  simp only [List.foldl_cons, List.foldl_nil]
  exact step_other name other _ _ h (by rw [cut1_at 1 name value hn1])

/-! ### Lengths -/
theorem emit_le (name seg : List UInt8) : (emit name seg).length ≤ seg.length + 1 := by
  unfold emit; split <;> simp
theorem emits_le (name : List UInt8) : ∀ (n : Nat) (l : List UInt8), l.length ≤ n → ((segs l).flatMap (emit name)).length ≤ 2 * l.length := by
  intro n
  induction n with
  | zero => intro l hl; have : l = [] := by simpa using hl
            subst this; simp [segs]
  | succ n ih =>
    intro l hl
    by_cases h0 : l = []
    · subst h0; simp [segs]
    · have h1 := cut1_rest_lt 2 l h0
      have h2 := cut1_length 2 l
      rw [segs_cut l h0, List.flatMap_cons, List.length_append]
      have h3 := ih (cut1 2 l).2.1 (by omega)
      have h4 := emit_le name (cut1 2 l).1
      omega
theorem withP_le (props name value : List UInt8) : (withP props name value).length ≤ 2 * props.length + name.length + value.length + 2 := by
  unfold withP
  have := emits_le name props.length props (Nat.le_refl _)
  simp only [List.length_append, List.length_cons, List.length_nil]; omega

end Go.Proofs.Qxb6000862a.Pl
