/-
  THE PLAIN SIDE: lines of a list of code points.
-/
namespace Go.Proofs.Qxb6608979a

/-- A line without its last carriage return. -/
def cr (l : List Int) : List Int := if l.getLast? = some 13 then l.dropLast else l

/-- Where the first newline stands; else the length. -/
def pos : List Int → Nat
  | [] => 0
  | c :: l => if c = 10 then 0 else pos l + 1

theorem pos_le : ∀ l, pos l ≤ l.length
  | [] => Nat.le_refl _
  | c :: l => by
    have := pos_le l
    unfold pos
    split <;> simp; omega
theorem pos_ne : ∀ (l : List Int) (k : Nat) (_ : k < pos l) (h : k < l.length), l[k] ≠ 10
  | [], k, hk, h => by simp at h
  | c :: l, k, hk, h => by
    unfold pos at hk
    by_cases hc : c = 10
    · rw [if_pos hc] at hk; omega
    · rw [if_neg hc] at hk
      cases k with
      | zero => simpa using hc
      | succ k => simp only [List.getElem_cons_succ]; exact pos_ne l k (by omega) _
theorem pos_eq : ∀ (l : List Int) (h : pos l < l.length), l[pos l] = 10
  | [], h => by simp at h
  | c :: l, h => by
    by_cases hc : c = 10
    · subst hc; simp [pos]
    · have e : pos (c :: l) = pos l + 1 := by simp [pos, hc]
      simp only [e, List.getElem_cons_succ]
      exact pos_eq l (by simp [e] at h; omega)

/-- The lines, the one at hand gathered in 'cur'. -/
def lnsA : List Int → List Int → List (List Int)
  | cur, [] => [cr cur]
  | cur, c :: l => if c = 10 then cr cur :: lnsA [] l else lnsA (cur ++ [c]) l
def lns (l : List Int) : List (List Int) := lnsA [] l

theorem lnsA_pos : ∀ (l cur : List Int), lnsA cur l = if pos l < l.length then cr (cur ++ l.take (pos l)) :: lns (l.drop (pos l + 1)) else [cr (cur ++ l)]
  | [], cur => by simp [lnsA, pos]
  | c :: l, cur => by
    by_cases hc : c = 10
    · subst hc; simp [lnsA, pos, lns]
    · have e : pos (c :: l) = pos l + 1 := by simp [pos, hc]
      have ih := lnsA_pos l (cur ++ [c])
      rw [show lnsA cur (c :: l) = lnsA (cur ++ [c]) l by simp [lnsA, hc], ih, e]
      simp
theorem lns_pos (l : List Int) : lns l = if pos l < l.length then cr (l.take (pos l)) :: lns (l.drop (pos l + 1)) else [cr l] := by
  have := lnsA_pos l []
  simpa [lns] using this

theorem lnsA_len : ∀ (l cur : List Int), (lnsA cur l).length = l.count 10 + 1
  | [], cur => by simp [lnsA]
  | c :: l, cur => by
    by_cases hc : c = 10
    · subst hc; simp [lnsA, lnsA_len l []]
    · simp [lnsA, hc, lnsA_len l (cur ++ [c])]
theorem lns_len (l : List Int) : (lns l).length = l.count 10 + 1 := lnsA_len l []

theorem cr_sub (l : List Int) : ∀ x ∈ cr l, x ∈ l := by
  intro x hx
  unfold cr at hx
  split at hx
  · exact (List.dropLast_sublist l).subset hx
  · exact hx
/-- No line holds a newline. -/
theorem lnsA_no : ∀ (l cur : List Int), (∀ x ∈ cur, x ≠ 10) → ∀ y ∈ lnsA cur l, ∀ x ∈ y, x ≠ 10
  | [], cur, hcur, y, hy, x, hx => by
    simp [lnsA] at hy; subst hy; exact hcur x (cr_sub _ x hx)
  | c :: l, cur, hcur, y, hy, x, hx => by
    by_cases hc : c = 10
    · subst hc
      simp [lnsA] at hy
      rcases hy with rfl | hy
      · exact hcur x (cr_sub _ x hx)
      · exact lnsA_no l [] (by simp) y hy x hx
    · simp [lnsA, hc] at hy
      exact lnsA_no l (cur ++ [c]) (by intro z hz; simp at hz; rcases hz with hz | rfl <;> first | exact hcur z hz | exact hc) y hy x hx

/-- The lines joined with newlines. -/
def jn : List (List Int) → List Int
  | [] => []
  | [y] => y
  | y :: z :: L => y ++ 10 :: jn (z :: L)
theorem jn_cons (y : List Int) (L : List (List Int)) (h : L ≠ []) : jn (y :: L) = y ++ 10 :: jn L := by
  cases L with
  | nil => exact absurd rfl h
  | cons z L => rfl

/-- The code points without the carriage returns at line ends. -/
def wl : List Int → List Int
  | [] => []
  | c :: l => if c = 13 ∧ (l = [] ∨ l.head? = some 10) then wl l else c :: wl l

theorem lnsA_ne (cur l : List Int) : lnsA cur l ≠ [] := by
  intro e; have := lnsA_len l cur; rw [e] at this; simp at this

/-- What is still to come of the joined lines, 'cur' gathered. -/
theorem jn_lnsA : ∀ (l cur : List Int), jn (lnsA cur l) = (if cur.getLast? = some 13 ∧ (l = [] ∨ l.head? = some 10) then cur.dropLast else cur) ++ wl l
  | [], cur => by simp [lnsA, jn, wl, cr]
  | c :: l, cur => by
    by_cases hc : c = 10
    · subst hc
      have h1 : lnsA cur (10 :: l) = cr cur :: lnsA [] l := by simp [lnsA]
      rw [h1, jn_cons _ _ (lnsA_ne _ _), jn_lnsA l []]
      simp [wl, cr]
    · have h1 : lnsA cur (c :: l) = lnsA (cur ++ [c]) l := by simp [lnsA, hc]
      rw [h1, jn_lnsA l (cur ++ [c])]
      by_cases h13 : c = 13 ∧ (l = [] ∨ l.head? = some 10)
      · obtain ⟨rfl, h2⟩ := h13
        simp [wl, h2]
      · have h3 : wl (c :: l) = c :: wl l := by simp only [wl]; rw [if_neg h13]
        rw [h3]
        have h4 : ¬ ((cur ++ [c]).getLast? = some 13 ∧ (l = [] ∨ l.head? = some 10)) := by
          intro h; apply h13; simpa using h
        rw [if_neg h4]
        have h5 : ¬ (cur.getLast? = some 13 ∧ (c :: l = [] ∨ (c :: l).head? = some 10)) := by
          intro h; simp at h; exact hc h.2
        rw [if_neg h5]
        simp
theorem jn_lns (l : List Int) : jn (lns l) = wl l := by
  have := jn_lnsA l []
  simpa [lns] using this
end Go.Proofs.Qxb6608979a
