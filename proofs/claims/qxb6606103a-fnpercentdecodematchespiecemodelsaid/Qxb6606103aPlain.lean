/-
  PLAIN LAWS on percent coding, over lists of bytes: no Go, no program. 'Pd.go' is what both decoders compute; 'Pd.enc' what the encoder computes.
-/
namespace Go.Proofs.Qxb6606103a.Pd

/-- A hex digit's value, and whether it is one. -/
def hexN (c : UInt8) : Nat × Bool :=
  if 48 ≤ c.toNat ∧ c.toNat ≤ 57 then (c.toNat - 48, true)
  else if 97 ≤ c.toNat ∧ c.toNat ≤ 102 then (c.toNat - 87, true)
  else if 65 ≤ c.toNat ∧ c.toNat ≤ 70 then (c.toNat - 55, true)
  else (0, false)

/-- The byte of two hex digits. -/
def pair (h l : UInt8) : UInt8 := UInt8.ofNat ((hexN h).1 * 16 + (hexN l).1)

/-- What is left to decode, from offset i on, with acc decoded already: the text and the bad offset (-1: none). -/
def go : List UInt8 → Nat → List UInt8 → List UInt8 × Int
  | [], _, acc => (acc, -1)
  | c :: r, i, acc =>
    if c = 37 then
      match r with
      | h :: l :: r' => if (hexN h).2 = true ∧ (hexN l).2 = true then go r' (i + 3) (acc ++ [pair h l]) else ([], (i : Int))
      | _ => ([], (i : Int))
    else go r (i + 1) (acc ++ [c])

theorem go_nil (i : Nat) (acc : List UInt8) : go [] i acc = (acc, -1) := by simp [go]

theorem go_plain (c : UInt8) (r : List UInt8) (i : Nat) (acc : List UInt8) (h : c ≠ 37) : go (c :: r) i acc = go r (i + 1) (acc ++ [c]) := by
  rw [go.eq_def]; simp [h]

theorem go_short0 (i : Nat) (acc : List UInt8) : go [37] i acc = ([], (i : Int)) := by
  rw [go.eq_def]; simp

theorem go_short1 (h : UInt8) (i : Nat) (acc : List UInt8) : go [37, h] i acc = ([], (i : Int)) := by
  rw [go.eq_def]; simp

theorem go_good (h l : UInt8) (r : List UInt8) (i : Nat) (acc : List UInt8) (hh : (hexN h).2 = true) (hl : (hexN l).2 = true) :
    go (37 :: h :: l :: r) i acc = go r (i + 3) (acc ++ [pair h l]) := by
  rw [go.eq_def]; simp [hh, hl]

theorem go_bad (h l : UInt8) (r : List UInt8) (i : Nat) (acc : List UInt8) (hb : ¬ ((hexN h).2 = true ∧ (hexN l).2 = true)) :
    go (37 :: h :: l :: r) i acc = ([], (i : Int)) := by
  rw [go.eq_def]; simp only [if_true]; rw [if_neg hb]

theorem go_prefix : ∀ (p r : List UInt8) (i : Nat) (acc : List UInt8), (∀ c ∈ p, c ≠ 37) → go (p ++ r) i acc = go r (i + p.length) (acc ++ p)
  | [], r, i, acc, _ => by simp
  | c :: p, r, i, acc, h => by
    rw [List.cons_append, go_plain c _ i acc (h c (by simp)), go_prefix p r (i + 1) (acc ++ [c]) (fun d hd => h d (by simp [hd]))]
    have e : i + 1 + p.length = i + (c :: p).length := by simp; omega
    rw [e]; simp

theorem go_all (p : List UInt8) (i : Nat) (acc : List UInt8) (h : ∀ c ∈ p, c ≠ 37) : go p i acc = (acc ++ p, -1) := by
  have := go_prefix p [] i acc h
  rw [List.append_nil] at this; rw [this, go_nil]

/-! ### the encoder -/

/-- The hex digit of n, in either case. -/
def dig (upper : Bool) (n : Nat) : UInt8 := UInt8.ofNat (if n < 10 then 48 + n else if upper then 55 + n else 87 + n)

def esc (all : Bool) (c : UInt8) : Bool := all || decide (c.toNat = 37) || decide (c.toNat < 33) || decide (127 ≤ c.toNat)

def enc1 (all upper : Bool) (c : UInt8) : List UInt8 := if esc all c then [37, dig upper (c.toNat / 16), dig upper (c.toNat % 16)] else [c]

def enc (all upper : Bool) : List UInt8 → List UInt8
  | [] => []
  | c :: r => enc1 all upper c ++ enc all upper r

theorem enc1_esc {all : Bool} {c : UInt8} (u : Bool) (h : all = true ∨ c.toNat = 37 ∨ c.toNat < 33 ∨ 127 ≤ c.toNat) : enc1 all u c = [37, dig u (c.toNat / 16), dig u (c.toNat % 16)] := by
  unfold enc1; rw [if_pos]; rcases h with h | h | h | h <;> simp [esc, h]

theorem enc1_plain {all : Bool} {c : UInt8} (u : Bool) (h : ¬ (all = true ∨ c.toNat = 37 ∨ c.toNat < 33 ∨ 127 ≤ c.toNat)) : enc1 all u c = [c] := by
  unfold enc1; rw [if_neg]; intro e; apply h; simpa [esc, or_assoc] using e

theorem enc_append (all upper : Bool) : ∀ (a b : List UInt8), enc all upper (a ++ b) = enc all upper a ++ enc all upper b
  | [], b => by simp [enc]
  | c :: a, b => by simp [enc, enc_append all upper a b]

theorem enc_one (all upper : Bool) (c : UInt8) : enc all upper [c] = enc1 all upper c := by simp [enc]

theorem enc1_le (all upper : Bool) (c : UInt8) : (enc1 all upper c).length ≤ 3 := by unfold enc1; split <;> simp

theorem enc_le (all upper : Bool) : ∀ l : List UInt8, (enc all upper l).length ≤ 3 * l.length
  | [] => by simp [enc]
  | c :: l => by have := enc_le all upper l; have := enc1_le all upper c; simp [enc]; omega

theorem all_digits : ∀ (u : Bool) (n : Fin 256), (hexN (dig u (n.val / 16))).2 = true ∧ (hexN (dig u (n.val % 16))).2 = true ∧ pair (dig u (n.val / 16)) (dig u (n.val % 16)) = UInt8.ofNat n.val := by
  decide +kernel

theorem digits (u : Bool) (c : UInt8) : (hexN (dig u (c.toNat / 16))).2 = true ∧ (hexN (dig u (c.toNat % 16))).2 = true ∧ pair (dig u (c.toNat / 16)) (dig u (c.toNat % 16)) = c := by
  have h := all_digits u ⟨c.toNat, c.toNat_lt⟩
  simpa using h

theorem go_enc1 (all upper : Bool) (c : UInt8) (r : List UInt8) (i : Nat) (acc : List UInt8) :
    ∃ j, go (enc1 all upper c ++ r) i acc = go r j (acc ++ [c]) := by
  unfold enc1
  by_cases h : esc all c = true
  · rw [if_pos h]
    obtain ⟨h1, h2, h3⟩ := digits upper c
    exact ⟨i + 3, by simp only [List.cons_append, List.nil_append]; rw [go_good _ _ _ _ _ h1 h2, h3]⟩
  · rw [if_neg h]
    refine ⟨i + 1, ?_⟩
    simp only [List.cons_append, List.nil_append]
    refine go_plain _ _ _ _ ?_
    intro e
    apply h
    simp [esc, e]

/-- DECODING UNDOES ENCODING. -/
theorem go_enc (all upper : Bool) : ∀ (l : List UInt8) (i : Nat) (acc : List UInt8), go (enc all upper l) i acc = (acc ++ l, -1)
  | [], i, acc => by simp [enc, go_nil]
  | c :: l, i, acc => by
    obtain ⟨j, hj⟩ := go_enc1 all upper c (enc all upper l) i acc
    rw [enc, hj, go_enc all upper l j (acc ++ [c])]
    simp

end Go.Proofs.Qxb6606103a.Pd
