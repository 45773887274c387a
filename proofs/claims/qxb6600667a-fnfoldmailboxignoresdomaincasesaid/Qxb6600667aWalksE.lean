import Derived.Test.Qxb6600667aWalksD
import Derived.Laws.IdiomStrings
namespace Go.Proofs.Qxb6600667a.Wk
open Go.RowKit
set_option linter.unusedVariables false

/-! ### a row of bytes that the call has made -/
def RowAt (w : World) (g : Nat) (l : List UInt8) : Prop := ∀ j c, l[j]? = some c → w.cell? ⟨g, j, none⟩ = some (.int .u8 c.toNat) ∧ w.frozen? ⟨g, j, none⟩ = false

theorem row_set {w : World} {g : Nat} {l : List UInt8} (h : RowAt w g l) (k : Nat) (hk : k < l.length) (d : UInt8) (v : Value) (hv : v = .int .u8 d.toNat) : RowAt (w.setCell ⟨g, k, none⟩ v) g (l.set k d) := by
  subst hv
  intro j c hj
  rw [World.frozen?_setCell]
  by_cases e : k = j
  · subst e
    rw [List.getElem?_set_self hk] at hj
    obtain rfl := Option.some.inj hj
    obtain ⟨h1, h2⟩ := h k _ (List.getElem?_eq_getElem hk)
    exact ⟨World.cell?_setCell_same _ _ _ h1, h2⟩
  · rw [List.getElem?_set_ne e] at hj
    obtain ⟨h1, h2⟩ := h j c hj
    exact ⟨(World.cell?_setCell_other _ _ _ _ (fun x => e (by injection x))).trans h1, h2⟩

theorem row_conv (w : World) (s : ByteArray) : ∃ (cap : Nat) (w1 : World), (convert 9 34 (.string s)).run Try.prog w = .ok (.slice (some ⟨w.heap.size, 0, none⟩) s.size cap) w1 ∧ RowAt w1 w.heap.size s.data.toList ∧ Below w.heap.size w w1 ∧ w.heap.size < w1.heap.size := by
  refine ⟨_, _, run_bytes_of_string w 9 34 5 s Try.underlying9 Try.underlying34 Try.underlying5, ?_, ?_, ?_⟩
  · intro j c hj
    have hlt : j < s.data.size := by
      have := (List.getElem?_eq_some_iff.1 hj).1
      simpa using this
    have hc : c = s.data[j] := by
      rw [Array.getElem?_toList, Array.getElem?_eq_getElem hlt] at hj
      exact (Option.some.inj hj).symm
    have hC := World.cell?_alloc_mark w.drew (bytesRow s (grownCap w s.size 0 5)) 5 ((bytesRow s (grownCap w s.size 0 5)).size, (bytesRow s (grownCap w s.size 0 5)).size + 1) j
    have hF := World.frozen?_alloc_mark w.drew (bytesRow s (grownCap w s.size 0 5)) 5 (bytesRow s (grownCap w s.size 0 5)).size ((bytesRow s (grownCap w s.size 0 5)).size + 1) j
    rw [bytesRow_at s _ j hlt] at hC
    have hsz : j < (bytesRow s (grownCap w s.size 0 5)).size := by
      unfold bytesRow
      rw [Array.size_append, Array.size_map]; omega
    constructor
    · rw [hc]; exact hC
    · refine Eq.trans hF ?_
      rw [decide_eq_false (by omega : ¬ (bytesRow s (grownCap w s.size 0 5)).size ≤ j)]; rfl
  · exact (Below.drew (Below.refl _ w)).alloc (by exact Nat.le_refl _) _
  · show w.heap.size < (w.heap.push _).size
    simp

theorem row_back (w : World) (g n cap : Nat) (l : List UInt8) (h : RowAt w g l) (hl : l.length = n) : (convert 34 9 (.slice (some ⟨g, 0, none⟩) n cap)).run Try.prog w = .ok (.string ⟨l.toArray⟩) w := by
  subst hl
  refine run_convert_bytes_back w 34 9 5 ⟨g, 0, none⟩ cap l Try.underlying34 Try.underlying5 Try.underlying9 ?_
  intro j hj
  have := (h j _ (List.getElem?_eq_getElem hj)).1
  have ea : Addr.add ⟨g, 0, none⟩ j = ⟨g, j, none⟩ := by cases j <;> simp [Addr.add]
  rw [ea]; exact this

/-! ### a list whose places from lo up to k are mapped -/
def mapTo (f : UInt8 → UInt8) (lo k : Nat) (l : List UInt8) : List UInt8 := l.mapIdx (fun i c => if lo ≤ i ∧ i < k then f c else c)
theorem mapTo_length (f : UInt8 → UInt8) (lo k : Nat) (l : List UInt8) : (mapTo f lo k l).length = l.length := by simp [mapTo]
theorem mapTo_get (f : UInt8 → UInt8) (lo k j : Nat) (l : List UInt8) : (mapTo f lo k l)[j]? = (l[j]?).map (fun c => if lo ≤ j ∧ j < k then f c else c) := by simp [mapTo]
theorem mapTo_start (f : UInt8 → UInt8) (lo k : Nat) (l : List UInt8) (h : k ≤ lo) : mapTo f lo k l = l := by
  apply List.ext_getElem?
  intro j
  rw [mapTo_get]
  cases l[j]? with
  | none => rfl
  | some c => simp; intro h1 h2; omega
theorem mapTo_set (f : UInt8 → UInt8) (lo k : Nat) (l : List UInt8) (c : UInt8) (hc : l[k]? = some c) (h : lo ≤ k) : (mapTo f lo k l).set k (f c) = mapTo f lo (k + 1) l := by
  have hk : k < l.length := (List.getElem?_eq_some_iff.1 hc).1
  apply List.ext_getElem?
  intro j
  by_cases e : k = j
  · subst e
    rw [List.getElem?_set_self (by rw [mapTo_length]; exact hk), mapTo_get, hc]
    simp [h]
  · rw [List.getElem?_set_ne e, mapTo_get, mapTo_get]
    cases l[j]? with
    | none => rfl
    | some d =>
      have : (lo ≤ j ∧ j < k) ↔ (lo ≤ j ∧ j < k + 1) := by omega
      simp [this]
theorem mapTo_skip (f : UInt8 → UInt8) (lo k : Nat) (l : List UInt8) (c : UInt8) (hc : l[k]? = some c) (hf : f c = c) : mapTo f lo k l = mapTo f lo (k + 1) l := by
  apply List.ext_getElem?
  intro j
  rw [mapTo_get, mapTo_get]
  cases hj : l[j]? with
  | none => rfl
  | some d =>
    by_cases e : k = j
    · subst e
      rw [hc] at hj
      obtain rfl := Option.some.inj hj
      simp [hf]
    · have : (lo ≤ j ∧ j < k) ↔ (lo ≤ j ∧ j < k + 1) := by omega
      simp [this]
theorem mapTo_end (f : UInt8 → UInt8) (lo k : Nat) (l : List UInt8) (h : l.length ≤ k) : mapTo f lo k l = l.take lo ++ (l.drop lo).map f := by
  apply List.ext_getElem?
  intro j
  rw [mapTo_get]
  rcases Nat.lt_or_ge j l.length with hj | hj
  · rw [List.getElem?_eq_getElem hj]
    rcases Nat.lt_or_ge j lo with h1 | h1
    · rw [List.getElem?_append_left (by simp; omega), List.getElem?_take_of_lt h1, List.getElem?_eq_getElem hj]
      simp; intro h2; omega
    · rw [List.getElem?_append_right (by simp; omega), List.getElem?_map, List.getElem?_drop]
      rw [show lo + (j - (l.take lo).length) = j by simp; omega, List.getElem?_eq_getElem hj]
      have : lo ≤ j ∧ j < k := by omega
      simp [this]
  · rw [List.getElem?_eq_none hj, List.getElem?_eq_none (by simp; omega)]; rfl
end Go.Proofs.Qxb6600667a.Wk
