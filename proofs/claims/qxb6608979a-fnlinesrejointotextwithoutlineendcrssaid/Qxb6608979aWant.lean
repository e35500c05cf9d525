/-
  LAW 1, THE PLAIN STEPS: how 'want' grows; how it is read line by line. What the loops keep.
-/
import Derived.Test.Qxb6608979aLines
namespace Go.Proofs.Qxb6608979a
open Go.RowKit

/-- 'want' and the count after k code points. -/
def WN (rs A : List Int) (k nl : Nat) : Prop := A ++ wl (rs.drop k) = wl rs ∧ nl + (rs.drop k).count 10 = rs.count 10 ∧ A.length ≤ k ∧ nl ≤ k

theorem drop_at (rs : List Int) (k : Nat) (hk : k < rs.length) : rs.drop k = rs[k] :: rs.drop (k + 1) := List.drop_eq_getElem_cons hk

/-- The carriage return at k stands at a line's end. -/
def ends (rs : List Int) (k : Nat) : Prop := k + 1 = rs.length ∨ rs[k + 1]? = some 10

theorem ends_iff (rs : List Int) (k : Nat) (hk : k < rs.length) : (rs.drop (k + 1) = [] ∨ (rs.drop (k + 1)).head? = some 10) ↔ ends rs k := by
  unfold ends
  rw [List.drop_eq_nil_iff, List.head?_drop]
  constructor
  · rintro (h | h)
    · left; omega
    · exact .inr h
  · rintro (h | h)
    · left; omega
    · exact .inr h

theorem WN.skip {rs A : List Int} {k nl : Nat} (h : WN rs A k nl) (hk : k < rs.length) (h13 : rs[k] = 13) (he : ends rs k) : WN rs A (k + 1) nl := by
  obtain ⟨h1, h2, h3, h4⟩ := h
  rw [drop_at rs k hk] at h1 h2
  refine ⟨?_, ?_, by omega, by omega⟩
  · rw [h13, wl, if_pos ⟨rfl, (ends_iff rs k hk).2 he⟩] at h1; exact h1
  · rw [h13, List.count_cons] at h2; simpa using h2
theorem WN.keep {rs A : List Int} {k nl : Nat} (h : WN rs A k nl) (hk : k < rs.length) (he : ¬ (rs[k] = 13 ∧ ends rs k)) (m : Nat) (hm : m = if rs[k] = 10 then nl + 1 else nl) : WN rs (A ++ [rs[k]]) (k + 1) m := by
  obtain ⟨h1, h2, h3, h4⟩ := h
  rw [drop_at rs k hk] at h1 h2
  refine ⟨?_, ?_, by simp; omega, by split at hm <;> omega⟩
  · rw [wl, if_neg (fun hh => he ⟨hh.1, (ends_iff rs k hk).1 hh.2⟩)] at h1; simpa using h1
  · rw [List.count_cons] at h2
    by_cases h10 : rs[k] = 10
    · rw [if_pos h10] at hm; rw [h10] at h2; simp at h2; omega
    · rw [if_neg h10] at hm
      have : (rs[k] == 10) = false := by simp [h10]
      rw [this] at h2; simp at h2; omega
theorem WN.fin {rs A : List Int} {k nl : Nat} (h : WN rs A k nl) (hk : ¬ k < rs.length) : A = wl rs ∧ nl = rs.count 10 := by
  obtain ⟨h1, h2, _, _⟩ := h
  rw [List.drop_eq_nil_of_le (by omega)] at h1 h2
  simp [wl] at h1 h2
  exact ⟨h1, h2⟩

/-- What is still to be read of the joined lines ahead of line J. -/
def rest (L : List (List Int)) (J : Nat) : List Int := if J = 0 then jn L else if J < L.length then 10 :: jn (L.drop J) else []
theorem rest_line (L : List (List Int)) (J : Nat) (hJ : J < L.length) : jn (L.drop J) = L[J] ++ rest L (J + 1) := by
  rw [List.drop_eq_getElem_cons hJ]
  unfold rest
  rw [if_neg (by omega)]
  by_cases h : J + 1 < L.length
  · rw [if_pos h, jn_cons _ _ (by intro e; have := congrArg List.length e; simp at this; omega)]
  · rw [if_neg h, List.drop_eq_nil_of_le (by omega)]; simp [jn]
theorem rest_zero (L : List (List Int)) : rest L 0 = jn (L.drop 0) := by simp [rest]
theorem rest_pos (L : List (List Int)) (J : Nat) (h0 : 0 < J) (hJ : J < L.length) : rest L J = 10 :: jn (L.drop J) := by
  unfold rest; rw [if_neg (by omega), if_pos hJ]
theorem rest_end (L : List (List Int)) (J : Nat) (h0 : 0 < J) (hJ : ¬ J < L.length) : rest L J = [] := by
  unfold rest; rw [if_neg (by omega), if_neg hJ]
/-- One code point read. -/
theorem read_one {WL r : List Int} {K : Nat} {x : Int} (h : WL.drop K = x :: r) : ∃ hK : K < WL.length, WL[K] = x ∧ WL.drop (K + 1) = r := by
  have hK : K < WL.length := by
    rcases Nat.lt_or_ge K WL.length with h1 | h1
    · exact h1
    · rw [List.drop_eq_nil_of_le h1] at h; cases h
  rw [List.drop_eq_getElem_cons hK] at h
  injection h with h1 h2
  exact ⟨hK, h1, h2⟩

/-- An owned row that has an address, read as code points. -/
theorem row_runes {W : World} {base g cap : Nat} {A : List Int} (h : W.ownsRow base 21 1 (.slice (some ⟨g, 0, none⟩) A.length cap) A.length (A.map (Value.int .i32))) (m : Nat) (hm : m < A.length) : W.cell? ⟨g, m, none⟩ = some (.int .i32 A[m]) := by
  rcases h.2 with ⟨h1, _⟩ | ⟨g', cap', cur, e, _, hg, _, _, _, ht⟩
  · cases h1
  · cases e
    rw [cell_of_row W g m _ _ _ hg]
    have h2 : (A.map (Value.int .i32))[m]? = some (.int .i32 A[m]) := by simp [hm]
    rw [← ht, List.getElem?_take_of_lt (by omega)] at h2
    simpa using h2
end Go.Proofs.Qxb6608979a
