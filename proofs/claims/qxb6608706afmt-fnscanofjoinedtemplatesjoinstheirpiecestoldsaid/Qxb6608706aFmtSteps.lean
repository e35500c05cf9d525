/-
  What scan's walk wants: plain facts on 'Tp.run', and scan's memory step by step.
-/
import Derived.Test.Qxb6608706aFmtAny
import Derived.Test.Qxb6608706aFmtFlush
import Derived.Test.Qxb6608706aFmtErr
namespace Go.Proofs.Qxb6608706aFmt
open Go.RowKit Go.Extern.Stop Go.Stop Go.Extern

/-! ### plain facts -/
theorem indexAny_spec : ∀ l : List UInt8, (Lib.indexAny l [123, 125] = -1 ∧ ∀ c ∈ l, ¬ Tp.brace c) ∨
    ∃ p x r, l = p ++ x :: r ∧ Tp.brace x ∧ (∀ c ∈ p, ¬ Tp.brace c) ∧ Lib.indexAny l [123, 125] = (p.length : Int)
  | [] => .inl ⟨rfl, by simp⟩
  | b :: l => by
    by_cases hb : Tp.brace b
    · refine .inr ⟨[], b, l, rfl, hb, by simp, ?_⟩
      have hc : [123, 125].contains b = true := by rcases hb with h | h <;> simp [h]
      rw [Lib.indexAny, if_pos hc]; rfl
    · have hc : ¬ [123, 125].contains b = true := by
        intro h; apply hb; simpa [Tp.brace] using h
      rcases indexAny_spec l with ⟨h1, h2⟩ | ⟨p, x, r, rfl, h2, h3, h4⟩
      · refine .inl ⟨?_, ?_⟩
        · rw [Lib.indexAny, if_neg hc, h1]; rfl
        · intro c hcm; simp at hcm; rcases hcm with rfl | hcm
          · exact hb
          · exact h2 c hcm
      · refine .inr ⟨b :: p, x, r, rfl, h2, ?_, ?_⟩
        · intro c hcm; simp at hcm; rcases hcm with rfl | hcm
          · exact hb
          · exact h3 c hcm
        · rw [Lib.indexAny, if_neg hc, h4, if_neg (by simp)]; simp

theorem drop_at (s : ByteArray) (k : Nat) (h : k < s.size) : s.data.toList.drop k = s[k] :: s.data.toList.drop (k + 1) := by
  rw [List.drop_eq_getElem_cons (by simpa using h)]; rfl
theorem len_eq (s : ByteArray) : s.data.toList.length = s.size := by simp
theorem toNat_ne {a : UInt8} {n : Nat} (hn : n < 256) (h : a ≠ UInt8.ofNat n) : a.toNat ≠ n := by
  intro e; apply h; apply UInt8.toNat_inj.1; rw [UInt8.toNat_ofNat']; omega

/-- Is the byte at k doubled? -/
def Dbl (s : ByteArray) (k : Nat) (h : k < s.size) : Prop := ∃ h1 : k + 1 < s.size, s[k + 1] = s[k]

theorem head_ne {s : ByteArray} {k : Nat} (h : k < s.size) (hd : ¬ Dbl s k h) {c : UInt8} (hc : s[k] = c) : (s.data.toList.drop (k + 1)).head? ≠ some c := by
  intro e
  apply hd
  by_cases h1 : k + 1 < s.size
  · refine ⟨h1, ?_⟩
    rw [drop_at s (k + 1) h1] at e
    simp at e; rw [e, hc]
  · rw [List.drop_of_length_le (by rw [len_eq]; omega)] at e; simp at e

theorem step_plain {s : ByteArray} {k : Nat} {lit : List UInt8} {T : List Tp.Tok} (h : k < s.size) (hb : ¬ Tp.brace s[k]) :
    Tp.run (s.data.toList.drop k) none lit T = Tp.run (s.data.toList.drop (k + 1)) none (lit ++ [s[k]]) T := by
  rw [drop_at s k h, Tp.run_plain _ _ _ _ hb]
theorem step_dbl {s : ByteArray} {k : Nat} {lit : List UInt8} {T : List Tp.Tok} (h : k < s.size) (hb : Tp.brace s[k]) (hd : Dbl s k h) :
    Tp.run (s.data.toList.drop k) none lit T = Tp.run (s.data.toList.drop (k + 2)) none (lit ++ [s[k]]) T := by
  obtain ⟨h1, e⟩ := hd
  rw [drop_at s k h, drop_at s (k + 1) h1, e, Tp.run_dbl _ _ _ _ hb]
theorem step_shut {s : ByteArray} {k : Nat} {lit : List UInt8} {T : List Tp.Tok} (h : k < s.size) (hc : s[k] = 125) (hd : ¬ Dbl s k h) :
    Tp.run (s.data.toList.drop k) none lit T = none := by
  rw [drop_at s k h, hc, Tp.run_shut _ _ _ (head_ne h hd hc)]
theorem step_open {s : ByteArray} {k : Nat} {lit : List UInt8} {T : List Tp.Tok} (h : k < s.size) (hc : s[k] = 123) (hd : ¬ Dbl s k h) :
    Tp.run (s.data.toList.drop k) none lit T = Tp.run (s.data.toList.drop (k + 1)) (some []) [] (Tp.flush lit T) := by
  rw [drop_at s k h, hc, Tp.run_lone _ _ _ (head_ne h hd hc)]

/-- What IndexAny finds behind a lone brace. -/
theorem step_find {s : ByteArray} {k : Nat} {lit : List UInt8} {T : List Tp.Tok} {R : Option (List UInt8 × List Tp.Tok)} (h : k < s.size) (hc : s[k] = 123) (hd : ¬ Dbl s k h) (hR : Tp.run (s.data.toList.drop k) none lit T = R) :
    (Lib.indexAny (s.extract (k + 1) s.size).data.toList [123, 125] = -1 ∧ R = none) ∨
    (∃ e : Nat, Lib.indexAny (s.extract (k + 1) s.size).data.toList [123, 125] = e ∧ ∃ he : k + 1 + e < s.size, (s[k + 1 + e] = 123 ∧ R = none) ∨
      (s[k + 1 + e] = 125 ∧ Tp.run (s.data.toList.drop (k + 1 + e + 1)) none [] (Tp.flush lit T ++ [((s.extract (k + 1) (k + 1 + e)).data.toList, true)]) = R)) := by
  rw [step_open h hc hd] at hR
  rw [Lib.extract_to_end]
  rcases indexAny_spec (s.data.toList.drop (k + 1)) with ⟨h1, h2⟩ | ⟨p, x, r, hl, hx, hp, hi⟩
  · refine .inl ⟨h1, ?_⟩
    have := Tp.run_field (s.data.toList.drop (k + 1)) [] [] [] (Tp.flush lit T) h2
    rw [List.append_nil, Tp.run_open] at this
    rw [← hR, this]
  · have hlen : p.length + 1 + r.length = s.size - (k + 1) := by
      have := congrArg List.length hl
      simp at this; omega
    have hdrop : s.data.toList.drop (k + 1 + p.length) = x :: r := by
      rw [← List.drop_drop, hl]; simp
    have hlt : k + 1 + p.length < s.size := by omega
    have hxe : s[k + 1 + p.length] = x := by
      have := drop_at s (k + 1 + p.length) hlt
      rw [hdrop] at this; exact (List.cons.inj this).1.symm
    have hr : r = s.data.toList.drop (k + 1 + p.length + 1) := by
      have := drop_at s (k + 1 + p.length) hlt
      rw [hdrop] at this; exact (List.cons.inj this).2
    have hpe : (s.extract (k + 1) (k + 1 + p.length)).data.toList = p := by
      rw [Lib.extract_data, hl]; simp
    rw [hl, Tp.run_field p (x :: r) [] [] _ hp] at hR
    refine .inr ⟨p.length, hi, hlt, ?_⟩
    rcases hx with rfl | rfl
    · left; refine ⟨hxe, ?_⟩
      rw [Tp.run_f123] at hR; exact hR.symm
    · right; refine ⟨hxe, ?_⟩
      rw [Tp.run_f125] at hR
      rw [hpe, ← hr, ← hR]; simp

/-! ### scan's memory, step by step -/
theorem Mem.write {B : Nat} {lit : List UInt8} {T : List Tp.Tok} {w w' : World} {c : UInt8} (hm : Mem B lit T w)
    (hb : Lib.BuilderAtF 44 5 (B + 1) (B + 1) (.pointer (some ⟨B + 1, 0, none⟩)) (Lib.byteCells lit ++ [.int .u8 (c.toNat : Int)]) w') (hbel : Below (B + 1) w w') (hk : Lib.OthersKept 5 (some (B + 1)) w w') :
    Mem B (lit ++ [c]) T w' := by
  obtain ⟨⟨v, hv, hown⟩, hbld⟩ := hm
  refine ⟨⟨v, ?_, row_others hown hk (bld_block hbld)⟩, ?_⟩
  · rw [hbel.block B (by omega)]; exact hv
  · rw [Lib.byteCells_append]; exact Or.inr hb

/-- A builder where its own blocks stand. -/
theorem bld_kept {B : Nat} {bs : List Value} {w w' : World} (h : Lib.IsBuilderF 44 5 (B + 1) (B + 1) bs w)
    (hk : ∀ k o, w.heap[k]? = some o → k = B + 1 ∨ (∃ c fz, o = .cells c 5 fz) → w'.heap[k]? = some o) : Lib.IsBuilderF 44 5 (B + 1) (B + 1) bs w' := by
  have one : ∀ p, Lib.BuilderAtF 44 5 (B + 1) (B + 1) p bs w → Lib.BuilderAtF 44 5 (B + 1) (B + 1) p bs w' := by
    rintro p ⟨h1, v, hb, ⟨hl, hown⟩, hne⟩
    refine ⟨h1, v, hk _ _ hb (.inl rfl), ⟨hl, ?_⟩, hne⟩
    rcases hown with hn | ⟨g, cap, cur, fz, hv, hbg, hg, rest⟩
    · exact .inl hn
    · exact .inr ⟨g, cap, cur, fz, hv, hbg, hk _ _ hg (.inr ⟨cur, fz, rfl⟩), rest⟩
  exact h.elim (fun x => .inl (one _ x)) (fun x => .inr (one _ x))

/-- A field is appended. -/
theorem Mem.field {B : Nat} {T T' : List Tp.Tok} {lit : List UInt8} {w w2 : World} {v : Value} {o : Obj} {g2 cap2 n2 : Nat}
    (hv : w.heap[B]? = some (.cells #[v] 23 (0, 0))) (hown : w.ownsRow (B + 2) 38 2 v T.length (tokCells T)) (hb : Lib.IsBuilderF 44 5 (B + 1) (B + 1) (Lib.byteCells lit) w)
    (hown2 : w2.ownsRow (B + 2) 38 2 (.slice (some ⟨g2, 0, none⟩) n2 cap2) n2 (tokCells T')) (hn2 : n2 = T'.length) (hgrow : (w.alloc o).grownBy w2 v.ownBlock) :
    Mem B lit T' (w2.setCell ⟨B, 0, none⟩ (.slice (some ⟨g2, 0, none⟩) n2 cap2)) ∧ Below B w (w2.setCell ⟨B, 0, none⟩ (.slice (some ⟨g2, 0, none⟩) n2 cap2)) := by
  subst hn2
  obtain ⟨p, q, hblk⟩ := bld_block hb
  have hlt1 : B + 1 < w.heap.size := (Array.getElem?_eq_some_iff.1 hblk).1
  have hne0 : some B ≠ v.ownBlock := fun e => by have := hown.lt B e.symm; omega
  have hsza : (w.alloc o).heap.size = w.heap.size + 1 := by simp
  have k0 : w2.heap[B]? = some (.cells #[v] 23 (0, 0)) := by
    rw [hgrow.block B (by omega) hne0, Lib.alloc_old w o B (by omega)]; exact hv
  refine ⟨⟨⟨.slice (some ⟨g2, 0, none⟩) T'.length cap2, ?_, ?_⟩, ?_⟩, ?_⟩
  · simp [World.setCell, Array.getElem?_modify, k0]
  · exact hown2.setCell_low (by show B < _; omega) _
  · refine bld_kept hb fun k ob hk hcase => ?_
    have hklt : k < w.heap.size := (Array.getElem?_eq_some_iff.1 hk).1
    have hkB : k ≠ B := by
      rintro rfl
      rw [hv] at hk
      rcases hcase with h | ⟨c, fz, h⟩
      · omega
      · rw [h] at hk; cases hk
    rw [Below.heap_setCell _ _ _ _ (by simpa using hkB), hgrow.block k (by omega) ?_, Lib.alloc_old w o k hklt]
    · exact hk
    · intro e
      have h2 := hown.lt k e.symm
      rcases hcase with h | ⟨c, fz, h⟩
      · omega
      · rcases hown.2 with ⟨hvn, _⟩ | ⟨g, cap, cur, hvg, _, hg, _⟩
        · rw [hvn] at e; simp [Value.ownBlock] at e
        · rw [hvg] at e; simp [Value.ownBlock] at e
          subst e; rw [hk, h] at hg; cases hg
  · have b2 : Below B w w2 := ((Below.refl B w).alloc (by omega) o).grown hgrow (by omega) (by
      intro b hb'
      have := hown.lt b hb'; omega)
    exact b2.setCell (p := ⟨B, 0, none⟩) (Nat.le_refl _) _

/-- scan's memory at the start. -/
theorem Mem.start (w : World) : Mem w.heap.size [] [] ((w.alloc (.cells #[.slice none 0 0] 23)).alloc (.cells #[.pointer none, .slice none 0 0] 44)) := by
  refine ⟨⟨.slice none 0 0, ?_, World.ownsRow_nil _ _ _ _⟩, ?_⟩
  · rw [Lib.alloc_old _ _ _ (by simp)]; exact heap_alloc_new w _
  · have := Lib.IsBuilderF.of (Lib.fresh_isBuilder 44 5 (w.alloc (.cells #[.slice none 0 0] 23)))
    simpa [Lib.byteCells] using this
end Go.Proofs.Qxb6608706aFmt
