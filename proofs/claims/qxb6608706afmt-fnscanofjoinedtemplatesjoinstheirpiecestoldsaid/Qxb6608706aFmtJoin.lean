/-
  PLAIN LAWS: the pieces of a joined template are the pieces of its parts, the literal at the seam joined.
-/
import Derived.Test.Qxb6608706aFmtPlain
namespace Go.Proofs.Qxb6608706aFmt.Tp

/-- Two lists of pieces, the literal at the seam joined. -/
def join (A B : List Tok) : List Tok :=
  match B with
  | [] => A
  | t :: B' => if t.2 = false ∧ last true A = false then A.dropLast ++ (((A.getLast?.getD ([], false)).1 ++ t.1, false) :: B') else A ++ t :: B'

theorem join_nil (A : List Tok) : join A [] = A := rfl
theorem join_field (A B : List Tok) (t : Tok) (h : t.2 = true) : join A (t :: B) = A ++ t :: B := by simp [join, h]

theorem join_append (A X R : List Tok) (h : X ≠ []) : join A (X ++ R) = join A X ++ R := by
  cases X with
  | nil => exact absurd rfl h
  | cons t X =>
    simp only [join, List.cons_append]
    split <;> simp

theorem join_then {A X R : List Tok} (h : X ≠ [] ∨ R = [] ∨ ∃ x r, R = (x, true) :: r) : join A (X ++ R) = join A X ++ R := by
  by_cases hx : X = []
  · subst hx
    rcases h with h | rfl | ⟨x, r, rfl⟩
    · exact absurd rfl h
    · simp [join]
    · rw [List.nil_append, join_field _ _ _ rfl]; rfl
  · exact join_append A X R hx

theorem flush_append (lit : List UInt8) (P T : List Tok) : flush lit (P ++ T) = P ++ flush lit T := by
  unfold flush; split <;> simp
theorem flush_nil (T : List Tok) : flush [] T = T := by simp [flush]

theorem last_snoc (b : Bool) (A : List Tok) (t : Tok) : last b (A ++ [t]) = t.2 := by rw [last_append]; rfl

/-- Literal text added behind a list that ends in a field. -/
theorem flush_join (l la : List UInt8) (t : List Tok) (h : last true t = true) : flush (l ++ la) t = join (flush l t) (flush la []) := by
  by_cases h1 : la = []
  · subst h1; rw [List.append_nil, flush_nil, join_nil]
  · have e1 : flush la [] = [(la, false)] := by unfold flush; rw [if_neg h1]; rfl
    have e2 : flush (l ++ la) t = t ++ [(l ++ la, false)] := by unfold flush; rw [if_neg (by simp [h1])]
    rw [e1, e2]
    by_cases h2 : l = []
    · subst h2; rw [flush_nil]; simp [join, h]
    · have e3 : flush l t = t ++ [(l, false)] := by unfold flush; rw [if_neg h2]
      rw [e3]
      simp [join, last_snoc]

theorem run_append : ∀ (n : Nat) (a b : List UInt8), a.length ≤ n → ∀ (fld : Option (List UInt8)) (lit : List UInt8) (T : List Tok) (q : List UInt8 × List Tok),
    run a fld lit T = some q → run (a ++ b) fld lit T = run b none q.1 q.2
  | 0, a, b, hl, fld, lit, T, q, h => by
    obtain rfl : a = [] := List.length_eq_zero_iff.1 (by omega)
    cases fld with
    | none => rw [run_end] at h; cases h; rfl
    | some f => rw [run_open] at h; cases h
  | n + 1, [], b, hl, fld, lit, T, q, h => by
    cases fld with
    | none => rw [run_end] at h; cases h; rfl
    | some f => rw [run_open] at h; cases h
  | n + 1, c :: r, b, hl, fld, lit, T, q, h => by
    have hr : r.length ≤ n := by simp at hl; omega
    rw [List.cons_append]
    cases fld with
    | some f =>
      by_cases h1 : c = 123
      · subst h1; rw [run_f123] at h; cases h
      · by_cases h2 : c = 125
        · subst h2; rw [run_f125] at h ⊢
          exact run_append n r b hr _ _ _ q h
        · have hc : ¬ brace c := by rintro (e | e) <;> contradiction
          rw [run_fplain c _ f lit T hc] at h ⊢
          exact run_append n r b hr _ _ _ q h
    | none =>
      rcases cases_none c r with hc | ⟨hb, r', rfl⟩ | ⟨rfl, hh⟩ | ⟨rfl, hh⟩
      · rw [run_plain c _ lit T hc] at h ⊢
        exact run_append n r b hr _ _ _ q h
      · rw [run_dbl c r' lit T hb] at h
        rw [List.cons_append, run_dbl c _ lit T hb]
        exact run_append n r' b (by simp at hr; omega) _ _ _ q h
      · rw [run_lone r lit T hh] at h
        cases r with
        | nil => rw [run_open] at h; cases h
        | cons d r' =>
          rw [run_lone _ lit T (by simpa using hh)]
          exact run_append n (d :: r') b hr _ _ _ q h
      · rw [run_shut r lit T hh] at h; cases h

theorem run_toks : ∀ (n : Nat) (b : List UInt8), b.length ≤ n → ∀ (fld : Option (List UInt8)) (lit : List UInt8) (P T : List Tok),
    run b fld lit (P ++ T) = (run b fld lit T).map fun q => (q.1, P ++ q.2)
  | 0, b, hl, fld, lit, P, T => by
    obtain rfl : b = [] := List.length_eq_zero_iff.1 (by omega)
    cases fld with
    | none => rw [run_end, run_end]; rfl
    | some f => rw [run_open, run_open]; rfl
  | n + 1, [], hl, fld, lit, P, T => by
    cases fld with
    | none => rw [run_end, run_end]; rfl
    | some f => rw [run_open, run_open]; rfl
  | n + 1, c :: r, hl, fld, lit, P, T => by
    have hr : r.length ≤ n := by simp at hl; omega
    cases fld with
    | some f =>
      by_cases h1 : c = 123
      · subst h1; rw [run_f123, run_f123]; rfl
      · by_cases h2 : c = 125
        · subst h2; rw [run_f125, run_f125, List.append_assoc]
          exact run_toks n r hr _ _ _ _
        · have hc : ¬ brace c := by rintro (e | e) <;> contradiction
          rw [run_fplain c _ f lit _ hc, run_fplain c _ f lit _ hc]
          exact run_toks n r hr _ _ _ _
    | none =>
      rcases cases_none c r with hc | ⟨hb, r', rfl⟩ | ⟨rfl, hh⟩ | ⟨rfl, hh⟩
      · rw [run_plain c _ lit _ hc, run_plain c _ lit _ hc]
        exact run_toks n r hr _ _ _ _
      · rw [run_dbl c r' lit _ hb, run_dbl c r' lit _ hb]
        exact run_toks n r' (by simp at hr; omega) _ _ _ _
      · rw [run_lone r lit _ hh, run_lone r lit _ hh, flush_append]
        exact run_toks n r hr _ _ _ _
      · rw [run_shut r lit _ hh, run_shut r lit _ hh]; rfl

theorem run_head : ∀ (r f lit : List UInt8) (q : List UInt8 × List Tok), run r (some f) lit [] = some q → ∃ x rest, q.2 = (x, true) :: rest
  | [], f, lit, q, h => by rw [run_open] at h; cases h
  | c :: r, f, lit, q, h => by
    by_cases h1 : c = 123
    · subst h1; rw [run_f123] at h; cases h
    · by_cases h2 : c = 125
      · subst h2
        rw [run_f125, List.nil_append] at h
        have := run_toks r.length r (Nat.le_refl _) none [] [(f, true)] []
        rw [List.append_nil] at this
        rw [this] at h
        cases hx : run r none [] [] with
        | none => rw [hx] at h; cases h
        | some z => rw [hx] at h; cases h; exact ⟨f, z.2, rfl⟩
      · have hc : ¬ brace c := by rintro (e | e) <;> contradiction
        rw [run_fplain c _ f lit _ hc] at h
        exact run_head r _ _ q h

theorem run_lit : ∀ (n : Nat) (b : List UInt8), b.length ≤ n → ∀ (la : List UInt8) (q : List UInt8 × List Tok), run b none la [] = some q → ∀ (l : List UInt8) (t : List Tok),
    (q.2 = [] ∧ run b none (l ++ la) t = some (l ++ q.1, t)) ∨ (∃ la' x rest, q.2 = flush la' [] ++ ((x, true) :: rest) ∧ run b none (l ++ la) t = some (q.1, flush (l ++ la') t ++ ((x, true) :: rest)))
  | 0, b, hl, la, q, h, l, t => by
    obtain rfl : b = [] := List.length_eq_zero_iff.1 (by omega)
    rw [run_end] at h; cases h
    left; exact ⟨rfl, by rw [run_end]⟩
  | n + 1, [], hl, la, q, h, l, t => by
    rw [run_end] at h; cases h
    left; exact ⟨rfl, by rw [run_end]⟩
  | n + 1, c :: r, hl, la, q, h, l, t => by
    have hr : r.length ≤ n := by simp at hl; omega
    rcases cases_none c r with hc | ⟨hb, r', rfl⟩ | ⟨rfl, hh⟩ | ⟨rfl, hh⟩
    · rw [run_plain c _ la _ hc] at h
      rw [run_plain c _ _ _ hc, List.append_assoc]
      exact run_lit n r hr _ q h l t
    · rw [run_dbl c r' la _ hb] at h
      rw [run_dbl c r' _ _ hb, List.append_assoc]
      exact run_lit n r' (by simp at hr; omega) _ q h l t
    · rw [run_lone r la _ hh] at h
      rw [run_lone r _ _ hh]
      have e1 := run_toks r.length r (Nat.le_refl _) (some []) [] (flush la []) []
      have e2 := run_toks r.length r (Nat.le_refl _) (some []) [] (flush (l ++ la) t) []
      rw [List.append_nil] at e1 e2
      rw [e1] at h
      rw [e2]
      cases hx : run r (some []) [] [] with
      | none => rw [hx] at h; cases h
      | some z =>
        rw [hx] at h; cases h
        obtain ⟨x, rest, hz⟩ := run_head r [] [] z hx
        right
        exact ⟨la, x, rest, by simp only [hz], by simp only [Option.map_some, hz]⟩
    · rw [run_shut r la _ hh] at h; cases h

/-- THE SEAM. -/
theorem scan_join {a b : List UInt8} {qa qb : List UInt8 × List Tok} (ha : run a none [] [] = some qa) (hb : run b none [] [] = some qb) :
    ∃ q, run (a ++ b) none [] [] = some q ∧ flush q.1 q.2 = join (flush qa.1 qa.2) (flush qb.1 qb.2) := by
  rw [run_append a.length a b (Nat.le_refl _) none [] [] qa ha]
  have hlast := (ok_scan ha).2.2
  rcases run_lit b.length b (Nat.le_refl _) [] qb hb qa.1 qa.2 with ⟨h1, h2⟩ | ⟨la, x, rest, h1, h2⟩
  · rw [List.append_nil] at h2
    refine ⟨_, h2, ?_⟩
    simp only
    rw [h1, flush_join _ _ _ hlast]
  · rw [List.append_nil] at h2
    refine ⟨_, h2, ?_⟩
    simp only
    rw [h1, flush_append, flush_append, flush_join _ _ _ hlast]
    have hhead : ∃ y r, flush qb.1 ((x, true) :: rest) = (y, true) :: r := by
      unfold flush; split
      · exact ⟨x, rest, rfl⟩
      · exact ⟨x, rest ++ [(qb.1, false)], rfl⟩
    rw [join_then (Or.inr (Or.inr hhead))]

/-! ### the join, piece by piece -/
theorem last_at : ∀ (b : Bool) (A : List Tok) (h : 0 < A.length), last b A = (A[A.length - 1]'(by omega)).2
  | b, [t], h => rfl
  | b, t :: u :: A, h => by
    have := last_at t.2 (u :: A) (by simp)
    simp only [last] at this ⊢
    rw [this]; simp

/-- The first piece of B. -/
theorem join_first (A B : List Tok) (h : 0 < B.length) :
    join A (B.take 1) = if B[0].2 = false ∧ last true A = false then A.dropLast ++ [((A.getLast?.getD ([], false)).1 ++ B[0].1, false)] else A ++ [B[0]] := by
  cases B with
  | nil => simp at h
  | cons t B => simp [join]
/-- A later piece. -/
theorem join_later (A B : List Tok) (k : Nat) (h : k < B.length) (hk : 0 < k) : join A (B.take (k + 1)) = join A (B.take k) ++ [B[k]] := by
  rw [List.take_succ_eq_append_getElem h]
  refine join_append _ _ _ ?_
  intro e
  have h2 : (B.take k).length = 0 := by rw [e]; rfl
  rw [List.length_take] at h2; omega
theorem join_all (A B : List Tok) : join A (B.take B.length) = join A B := by rw [List.take_length]
theorem join_none (A B : List Tok) : join A (B.take 0) = A := by simp [join]

end Go.Proofs.Qxb6608706aFmt.Tp
