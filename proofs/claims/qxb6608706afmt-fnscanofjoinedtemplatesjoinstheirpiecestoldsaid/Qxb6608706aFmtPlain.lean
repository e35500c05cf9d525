/-
  PLAIN LAWS on templates, over lists of bytes: no Go, no program. 'Tp.run' is the scanner as an automaton; 'Tp.flush' its last step; 'Tp.rend' writes pieces back; 'Tp.join' joins two lists of pieces at the seam.
-/
namespace Go.Proofs.Qxb6608706aFmt.Tp

/-- A piece: its text, and whether it is a field. -/
abbrev Tok := List UInt8 × Bool

def flush (lit : List UInt8) (toks : List Tok) : List Tok := if lit = [] then toks else toks ++ [(lit, false)]

/-- The scanner: what is left, the field that is open (if any), the literal text and the pieces gathered. -/
def run : List UInt8 → Option (List UInt8) → List UInt8 → List Tok → Option (List UInt8 × List Tok)
  | [], none, lit, toks => some (lit, toks)
  | [], some _, _, _ => none
  | c :: r, some f, lit, toks =>
    if c = 123 then none else if c = 125 then run r none [] (toks ++ [(f, true)]) else run r (some (f ++ [c])) lit toks
  | c :: r, none, lit, toks =>
    if c = 123 ∨ c = 125 then
      match run r (some []) [] (flush lit toks), r with
      | _, [] => none
      | x, d :: r' => if d = c then run r' none (lit ++ [c]) toks else if c = 125 then none else x
    else run r none (lit ++ [c]) toks

def brace (c : UInt8) : Prop := c = 123 ∨ c = 125

theorem run_end (lit : List UInt8) (toks : List Tok) : run [] none lit toks = some (lit, toks) := by simp [run]
theorem run_open (f lit : List UInt8) (toks : List Tok) : run [] (some f) lit toks = none := by simp [run]
theorem run_plain (c : UInt8) (r lit : List UInt8) (toks : List Tok) (h : ¬ brace c) : run (c :: r) none lit toks = run r none (lit ++ [c]) toks := by
  rw [run.eq_def]; simp only []; rw [if_neg (show ¬ (c = 123 ∨ c = 125) from h)]
theorem run_dbl (c : UInt8) (r lit : List UInt8) (toks : List Tok) (h : brace c) : run (c :: c :: r) none lit toks = run r none (lit ++ [c]) toks := by
  rw [run.eq_def]; simp only []; rw [if_pos (show c = 123 ∨ c = 125 from h)]; simp
theorem run_lone (r lit : List UInt8) (toks : List Tok) (h : r.head? ≠ some 123) : run (123 :: r) none lit toks = run r (some []) [] (flush lit toks) := by
  rw [run.eq_def]
  cases r with
  | nil => simp [run]
  | cons d r' => simp at h; simp [h]
theorem run_shut (r lit : List UInt8) (toks : List Tok) (h : r.head? ≠ some 125) : run (125 :: r) none lit toks = none := by
  rw [run.eq_def]
  cases r with
  | nil => simp
  | cons d r' => simp at h; simp [h]
theorem run_f123 (r f lit : List UInt8) (toks : List Tok) : run (123 :: r) (some f) lit toks = none := by
  rw [run.eq_def]; simp
theorem run_f125 (r f lit : List UInt8) (toks : List Tok) : run (125 :: r) (some f) lit toks = run r none [] (toks ++ [(f, true)]) := by
  rw [run.eq_def]; simp
theorem run_fplain (c : UInt8) (r f lit : List UInt8) (toks : List Tok) (h : ¬ brace c) : run (c :: r) (some f) lit toks = run r (some (f ++ [c])) lit toks := by
  have h1 : c ≠ 123 := fun e => h (Or.inl e)
  have h2 : c ≠ 125 := fun e => h (Or.inr e)
  rw [run.eq_def]; simp only []; rw [if_neg h1, if_neg h2]

/-- Inside a field: bytes that are no braces are gathered. -/
theorem run_field : ∀ (p r f lit : List UInt8) (toks : List Tok), (∀ c ∈ p, ¬ brace c) → run (p ++ r) (some f) lit toks = run r (some (f ++ p)) lit toks
  | [], r, f, lit, toks, _ => by simp
  | c :: p, r, f, lit, toks, h => by
    rw [List.cons_append, run_fplain c _ f lit toks (h c (by simp)), run_field p r (f ++ [c]) lit toks (fun d hd => h d (by simp [hd]))]
    simp

/-! ### one induction for all: by the length -/
theorem cases_none (c : UInt8) (r : List UInt8) :
    (¬ brace c) ∨ (brace c ∧ ∃ r', r = c :: r') ∨ (c = 123 ∧ r.head? ≠ some 123) ∨ (c = 125 ∧ r.head? ≠ some 125) := by
  by_cases hb : brace c
  · right
    cases r with
    | nil => rcases hb with h | h
             · right; left; exact ⟨h, by simp⟩
             · right; right; exact ⟨h, by simp⟩
    | cons d r' =>
      by_cases e : d = c
      · left; subst e; exact ⟨hb, r', rfl⟩
      · right
        rcases hb with h | h
        · left; subst h; exact ⟨rfl, by simp [e]⟩
        · right; subst h; exact ⟨rfl, by simp [e]⟩
  · left; exact hb

/-! ### writing back -/
def esc1 (c : UInt8) : List UInt8 := if c = 123 ∨ c = 125 then [c, c] else [c]
def esc : List UInt8 → List UInt8
  | [] => []
  | c :: r => esc1 c ++ esc r
def rend1 (t : Tok) : List UInt8 := if t.2 then 123 :: (t.1 ++ [125]) else esc t.1
def rend : List Tok → List UInt8
  | [] => []
  | t :: r => rend1 t ++ rend r

theorem esc_append : ∀ a b : List UInt8, esc (a ++ b) = esc a ++ esc b
  | [], b => by simp [esc]
  | c :: a, b => by simp [esc, esc_append a b]
theorem rend_append : ∀ a b : List Tok, rend (a ++ b) = rend a ++ rend b
  | [], b => by simp [rend]
  | c :: a, b => by simp [rend, rend_append a b]
theorem rend_flush (lit : List UInt8) (toks : List Tok) : rend (flush lit toks) = rend toks ++ esc lit := by
  unfold flush
  by_cases h : lit = []
  · rw [if_pos h, h]; simp [esc]
  · rw [if_neg h, rend_append]; simp [rend, rend1]

/-- What the state has read. -/
def seen (fld : Option (List UInt8)) (lit : List UInt8) (toks : List Tok) : List UInt8 :=
  rend toks ++ esc lit ++ (match fld with | none => [] | some f => 123 :: f)

theorem run_rend : ∀ (n : Nat) (l : List UInt8), l.length ≤ n → ∀ (fld : Option (List UInt8)) (lit : List UInt8) (toks : List Tok) (q : List UInt8 × List Tok),
    (fld ≠ none → lit = []) → run l fld lit toks = some q → rend (flush q.1 q.2) = seen fld lit toks ++ l
  | 0, l, hl, fld, lit, toks, q, hf, h => by
    obtain rfl : l = [] := List.length_eq_zero_iff.1 (by omega)
    cases fld with
    | none => rw [run_end] at h; cases h; simp [rend_flush, seen]
    | some f => rw [run_open] at h; cases h
  | n + 1, [], hl, fld, lit, toks, q, hf, h => by
    cases fld with
    | none => rw [run_end] at h; cases h; simp [rend_flush, seen]
    | some f => rw [run_open] at h; cases h
  | n + 1, c :: r, hl, fld, lit, toks, q, hf, h => by
    have hr : r.length ≤ n := by simp at hl; omega
    cases fld with
    | some f =>
      obtain rfl := hf (by simp)
      by_cases h1 : c = 123
      · subst h1; rw [run_f123] at h; cases h
      · by_cases h2 : c = 125
        · subst h2; rw [run_f125] at h
          rw [run_rend n r hr none [] _ q (by simp) h]
          simp [seen, rend_append, rend, rend1, esc]
        · rw [run_fplain c r f [] toks (by rintro (e | e) <;> contradiction)] at h
          rw [run_rend n r hr (some (f ++ [c])) [] _ q (by simp) h]
          simp [seen]
    | none =>
      rcases cases_none c r with hc | ⟨hb, r', rfl⟩ | ⟨rfl, hh⟩ | ⟨rfl, hh⟩
      · rw [run_plain c r lit toks hc] at h
        rw [run_rend n r hr none _ _ q (by simp) h]
        have : esc1 c = [c] := by unfold esc1; rw [if_neg (show ¬ (c = 123 ∨ c = 125) from hc)]
        simp [seen, esc_append, esc, this]
      · rw [run_dbl c r' lit toks hb] at h
        rw [run_rend n r' (by simp at hr; omega) none _ _ q (by simp) h]
        have : esc1 c = [c, c] := by unfold esc1; rw [if_pos (show c = 123 ∨ c = 125 from hb)]
        simp [seen, esc_append, esc, this]
      · rw [run_lone r lit toks hh] at h
        rw [run_rend n r hr (some []) [] _ q (by simp) h]
        simp [seen, rend_flush, esc]
      · rw [run_shut r lit toks hh] at h; cases h

/-- The pieces write the text back. -/
theorem rend_scan {l : List UInt8} {q : List UInt8 × List Tok} (h : run l none [] [] = some q) : rend (flush q.1 q.2) = l := by
  rw [run_rend l.length l (Nat.le_refl _) none [] [] q (by simp) h]; simp [seen, rend, esc]

/-! ### the pieces' shape -/
def noBrace (s : List UInt8) : Prop := ∀ c ∈ s, ¬ brace c

/-- No brace in a field; no literal that is empty or stands behind another. -/
def Ok : Bool → List Tok → Prop
  | _, [] => True
  | prev, t :: r => (if t.2 = true then noBrace t.1 else t.1 ≠ [] ∧ prev = true) ∧ Ok t.2 r

/-- Whether a literal may follow. -/
def last : Bool → List Tok → Bool
  | prev, [] => prev
  | _, t :: r => last t.2 r

theorem Ok_append : ∀ (b : Bool) (x y : List Tok), Ok b (x ++ y) ↔ Ok b x ∧ Ok (last b x) y
  | b, [], y => by simp [Ok, last]
  | b, t :: x, y => by simp [Ok, last, Ok_append t.2 x y, and_assoc]
theorem last_append : ∀ (b : Bool) (x y : List Tok), last b (x ++ y) = last (last b x) y
  | b, [], y => by simp [last]
  | b, t :: x, y => by simp [last, last_append t.2 x y]

theorem Ok_flush {lit : List UInt8} {toks : List Tok} (h : Ok true toks) (hl : last true toks = true) : Ok true (flush lit toks) := by
  unfold flush
  by_cases e : lit = []
  · rw [if_pos e]; exact h
  · rw [if_neg e, Ok_append]; exact ⟨h, by simp [Ok, e, hl]⟩

theorem run_ok : ∀ (n : Nat) (l : List UInt8), l.length ≤ n → ∀ (fld : Option (List UInt8)) (lit : List UInt8) (toks : List Tok) (q : List UInt8 × List Tok),
    Ok true toks → (∀ f, fld = some f → noBrace f) → (fld = none → last true toks = true) → run l fld lit toks = some q → Ok true q.2 ∧ last true q.2 = true
  | 0, l, hl, fld, lit, toks, q, ho, hn, hf, h => by
    obtain rfl : l = [] := List.length_eq_zero_iff.1 (by omega)
    cases fld with
    | none => rw [run_end] at h; cases h; exact ⟨ho, hf rfl⟩
    | some f => rw [run_open] at h; cases h
  | n + 1, [], hl, fld, lit, toks, q, ho, hn, hf, h => by
    cases fld with
    | none => rw [run_end] at h; cases h; exact ⟨ho, hf rfl⟩
    | some f => rw [run_open] at h; cases h
  | n + 1, c :: r, hl, fld, lit, toks, q, ho, hn, hf, h => by
    have hr : r.length ≤ n := by simp at hl; omega
    cases fld with
    | some f =>
      have hnf := hn f rfl
      by_cases h1 : c = 123
      · subst h1; rw [run_f123] at h; cases h
      · by_cases h2 : c = 125
        · subst h2; rw [run_f125] at h
          refine run_ok n r hr none [] _ q ?_ (by simp) ?_ h
          · rw [Ok_append]; exact ⟨ho, by simp [Ok, hnf]⟩
          · intro _; rw [last_append]; simp [last]
        · have hc : ¬ brace c := by rintro (e | e) <;> contradiction
          rw [run_fplain c r f lit toks hc] at h
          refine run_ok n r hr (some (f ++ [c])) lit _ q ho ?_ (by simp) h
          rintro g ⟨⟩ d hd
          simp at hd
          rcases hd with hd | rfl
          · exact hnf d hd
          · exact hc
    | none =>
      have hlst := hf rfl
      rcases cases_none c r with hc | ⟨hb, r', rfl⟩ | ⟨rfl, hh⟩ | ⟨rfl, hh⟩
      · rw [run_plain c r lit toks hc] at h
        exact run_ok n r hr none _ _ q ho (by simp) (fun _ => hlst) h
      · rw [run_dbl c r' lit toks hb] at h
        exact run_ok n r' (by simp at hr; omega) none _ _ q ho (by simp) (fun _ => hlst) h
      · rw [run_lone r lit toks hh] at h
        refine run_ok n r hr (some []) [] _ q (Ok_flush ho hlst) ?_ (by simp) h
        rintro g ⟨⟩ d hd; simp at hd
      · rw [run_shut r lit toks hh] at h; cases h

/-- The pieces of a text are of that shape. -/
theorem ok_scan {l : List UInt8} {q : List UInt8 × List Tok} (h : run l none [] [] = some q) : Ok true (flush q.1 q.2) ∧ Ok true q.2 ∧ last true q.2 = true := by
  have := run_ok l.length l (Nat.le_refl _) none [] [] q (by simp [Ok]) (by simp) (by simp [last]) h
  exact ⟨Ok_flush this.1 this.2, this⟩

end Go.Proofs.Qxb6608706aFmt.Tp
