/-
  scan's own memory, and the walks of (*strings.Builder).Reset and of scan's closure flush.
-/
import Derived.Test.Qxb6608706aFmtRows
import Derived.WalkKit
import Derived.WalkSpells
import Derived.WalkLawsBesides
import Derived.BigCall
import Derived.Deep.AppendLies
import Derived.Deep.RegionLaw
import Derived.Deep.DrawnRows
import Derived.Lib.OthersKept
import Derived.Test.Qxb6608706aFmtShelf
import Derived.Test.Qxb6608706aFmtPlain
namespace Go.Proofs.Qxb6608706aFmt
open Go.RowKit

theorem Tryf.info38 : (Tryf.prog.info? 38).map (fun i => (i.zero, i.size, i.bytes)) = some (some (.agg #[.string ⟨#[]⟩, .bool false]), 2, 24) := by kernel_rfl

/-- A piece's cells. -/
def tokCell (t : Tp.Tok) : List Value := [.string ⟨t.1.toArray⟩, .bool t.2]
def tokCells (T : List Tp.Tok) : List Value := T.flatMap tokCell

theorem tokCells_append (a b : List Tp.Tok) : tokCells (a ++ b) = tokCells a ++ tokCells b := by simp [tokCells]
theorem tokCells_length (a : List Tp.Tok) : (tokCells a).length = a.length * 2 := by
  induction a with
  | nil => rfl
  | cons t a ih => simp [tokCells, tokCell] at ih ⊢; omega
theorem tokCells_one (t : Tp.Tok) : tokCells [t] = tokCell t := by simp [tokCells]

/-- scan's own memory: the pieces' variable in block B, the literal's builder in block B + 1. -/
structure Mem (B : Nat) (lit : List UInt8) (T : List Tp.Tok) (w : World) : Prop where
  var : ∃ v, w.heap[B]? = some (.cells #[v] 23 (0, 0)) ∧ w.ownsRow (B + 2) 38 2 v T.length (tokCells T)
  bld : Lib.IsBuilderF 44 5 (B + 1) (B + 1) (Lib.byteCells lit) w

theorem bld_block {B : Nat} {bs : List Value} {w : World} (h : Lib.IsBuilderF 44 5 (B + 1) (B + 1) bs w) : ∃ p v, w.heap[B + 1]? = some (.cells #[p, v] 44 (0, 0)) := by
  rcases h with ⟨_, v, hb, _⟩ | ⟨_, v, hb, _⟩
  · exact ⟨_, v, hb⟩
  · exact ⟨_, v, hb⟩

theorem Mem.size {B : Nat} {lit : List UInt8} {T : List Tp.Tok} {w : World} (h : Mem B lit T w) : B + 2 ≤ w.heap.size := by
  obtain ⟨p, v, hb⟩ := bld_block h.bld
  have := (Array.getElem?_eq_some_iff.1 hb).1
  omega

/-- The pieces' row behind the builder's writers. -/
theorem row_others {w w' : World} {base b : Nat} {v : Value} {n : Nat} {xs : List Value} (h : w.ownsRow base 38 2 v n xs) (hk : Lib.OthersKept 5 (some b) w w') (hb : ∃ p q, w.heap[b]? = some (.cells #[p, q] 44 (0, 0))) :
    w'.ownsRow base 38 2 v n xs := by
  refine ⟨h.1, ?_⟩
  rcases h.2 with hn | ⟨g, cap, cur, rfl, hbg, hg, rest⟩
  · exact .inl hn
  · refine .inr ⟨g, cap, cur, rfl, hbg, ?_, rest⟩
    refine hk g _ hg ?_ ?_
    · intro e
      cases e
      obtain ⟨p, q, hb⟩ := hb
      rw [hg] at hb; cases hb
    · intro c fz e; cases e

set_option maxHeartbeats 400000 in
theorem reset_any (b : Nat) (p v : Value) (w : World) (hbk : w.heap[b]? = some (.cells #[p, v] 44 (0, 0))) :
    Calls Tryf.prog 21 #[.pointer (some ⟨b, 0, none⟩)] w fun e w' => e = .returned (.tuple #[]) ∧ w' = (w.setCell ⟨b, 0, none⟩ (.pointer none)).setCell ⟨b, 1, none⟩ (.slice none 0 0) := by
  have c0 : w.cell? ⟨b, 0, none⟩ = some p := by rw [Lib.cell_of_heap hbk]; rfl
  have c1 : (w.setCell ⟨b, 0, none⟩ (.pointer none)).cell? ⟨b, 1, none⟩ = some v := by
    have : (w.setCell ⟨b, 0, none⟩ (.pointer none)).heap[b]? = some (.cells #[.pointer none, v] 44 (0, 0)) := by simp [World.setCell, Array.getElem?_modify, hbk]
    rw [Lib.cell_of_heap this]; rfl
  have f0 : w.frozen? ⟨b, 0, none⟩ = false := by simp [World.frozen?, hbk]
  have f1 : w.frozen? ⟨b, 1, none⟩ = false := by simp [World.frozen?, hbk]
  have c1' : w.cell? ⟨b, 1, none⟩ = some v := by rw [Lib.cell_of_heap hbk]; rfl
  go_enter Tryf.func21, Tryf.ntmps21
  go_wp2
  go_end0
  exact ⟨rfl, rfl⟩

/-- An owned row and a store below its base. -/
theorem _root_.Go.World.ownsRow.setCell_low {w : World} {base : Nat} {e : TypeId} {size : Nat} {v : Value} {n : Nat} {xs : List Value} (h : w.ownsRow base e size v n xs) {a : Addr} (ha : a.block < base) (u : Value) :
    (w.setCell a u).ownsRow base e size v n xs := by
  refine ⟨h.1, ?_⟩
  rcases h.2 with hn | ⟨g, cap, cur, rfl, hbg, hg, rest⟩
  · exact .inl hn
  · exact .inr ⟨g, cap, cur, rfl, hbg, (Below.heap_setCell _ _ _ _ (by omega)).trans hg, rest⟩

/-- The builder behind Reset. -/
theorem reset_block {w : World} {b : Nat} {p v : Value} (hbk : w.heap[b]? = some (.cells #[p, v] 44 (0, 0))) :
    ((w.setCell ⟨b, 0, none⟩ (.pointer none)).setCell ⟨b, 1, none⟩ (.slice none 0 0)).heap[b]? = some (.cells #[.pointer none, .slice none 0 0] 44 (0, 0)) := by
  simp [World.setCell, Array.getElem?_modify, hbk]

/-- A variable's one cell, free to be written. -/
def Free (B : Nat) (v : Value) (w : World) : Prop := w.cell? ⟨B, 0, none⟩ = some v ∧ w.frozen? ⟨B, 0, none⟩ = false

theorem Free.alloc {B : Nat} {v : Value} {w : World} (h : Free B v w) (o : Obj) : Free B v (w.alloc o) := by
  have hlt := World.block_lt_of_cell? w _ h.1
  have e : (w.alloc o).heap[B]? = w.heap[B]? := Lib.alloc_old w o B hlt
  refine ⟨?_, ?_⟩
  · have := h.1; unfold World.cell? at this ⊢; simp only at this ⊢; rw [e]; exact this
  · have := h.2; unfold World.frozen? at this ⊢; simp only at this ⊢; rw [e]; exact this

theorem Free.grown {B : Nat} {v : Value} {w w' : World} {row : Option Nat} (h : Free B v w) (hg : w.grownBy w' row) (hne : row ≠ some B) : Free B v w' := by
  have hlt := World.block_lt_of_cell? w _ h.1
  exact ⟨(hg.cell_far ⟨B, 0, none⟩ hlt (Ne.symm hne)).trans h.1, (hg.frozen_far ⟨B, 0, none⟩ hlt (Ne.symm hne)).trans h.2⟩

theorem Free.below {B B' : Nat} {v : Value} {w w' : World} (h : Free B v w) (hb : Below B' w w') (hlt : B < B') : Free B v w' :=
  ⟨(hb.cell (p := ⟨B, 0, none⟩) hlt).trans h.1, (hb.frozen (p := ⟨B, 0, none⟩) hlt).trans h.2⟩

/-- What the closure leaves: the builder still lies in its block; behind Reset all is in order. -/
theorem flush_end {B : Nat} {T T' : List Tp.Tok} {w W1 w2 : World} {v : Value} {o : Obj} {bs : List Value} {g2 cap2 n2 : Nat}
    (hv : w.heap[B]? = some (.cells #[v] 23 (0, 0))) (hown : w.ownsRow (B + 2) 38 2 v T.length (tokCells T)) (hb1 : Lib.IsBuilderF 44 5 (B + 1) (B + 1) bs W1) (hbel1 : Below (B + 1) w W1)
    (hown2 : w2.ownsRow (B + 2) 38 2 (.slice (some ⟨g2, 0, none⟩) n2 cap2) n2 (tokCells T')) (hn2 : n2 = T'.length) (hgrow : (W1.alloc o).grownBy w2 v.ownBlock) :
    (∃ p q, (w2.setCell ⟨B, 0, none⟩ (.slice (some ⟨g2, 0, none⟩) n2 cap2)).heap[B + 1]? = some (.cells #[p, q] 44 (0, 0))) ∧
    ∀ p q, (w2.setCell ⟨B, 0, none⟩ (.slice (some ⟨g2, 0, none⟩) n2 cap2)).heap[B + 1]? = some (.cells #[p, q] 44 (0, 0)) →
      Mem B [] T' (((w2.setCell ⟨B, 0, none⟩ (.slice (some ⟨g2, 0, none⟩) n2 cap2)).setCell ⟨B + 1, 0, none⟩ (.pointer none)).setCell ⟨B + 1, 1, none⟩ (.slice none 0 0)) ∧
      Below B w (((w2.setCell ⟨B, 0, none⟩ (.slice (some ⟨g2, 0, none⟩) n2 cap2)).setCell ⟨B + 1, 0, none⟩ (.pointer none)).setCell ⟨B + 1, 1, none⟩ (.slice none 0 0)) := by
  subst hn2
  obtain ⟨p, q, hblk⟩ := bld_block hb1
  have hlt1 : B + 1 < W1.heap.size := (Array.getElem?_eq_some_iff.1 hblk).1
  have hne0 : some B ≠ v.ownBlock := fun e => by have := hown.lt B e.symm; omega
  have hne1 : some (B + 1) ≠ v.ownBlock := fun e => by have := hown.lt (B + 1) e.symm; omega
  have hsza : (W1.alloc o).heap.size = W1.heap.size + 1 := by simp
  have k1 : w2.heap[B + 1]? = some (.cells #[p, q] 44 (0, 0)) := by
    rw [hgrow.block (B + 1) (by omega) hne1, Lib.alloc_old W1 o (B + 1) hlt1]; exact hblk
  have k0 : w2.heap[B]? = some (.cells #[v] 23 (0, 0)) := by
    rw [hgrow.block B (by omega) hne0, Lib.alloc_old W1 o B (by omega), hbel1.block B (by omega)]; exact hv
  have k1' : (w2.setCell ⟨B, 0, none⟩ (.slice (some ⟨g2, 0, none⟩) T'.length cap2)).heap[B + 1]? = some (.cells #[p, q] 44 (0, 0)) := by
    rw [Below.heap_setCell _ _ _ _ (by simp)]; exact k1
  refine ⟨⟨p, q, k1'⟩, fun p' q' h' => ⟨⟨⟨.slice (some ⟨g2, 0, none⟩) T'.length cap2, ?_, ?_⟩, ?_⟩, ?_⟩⟩
  · rw [Below.heap_setCell _ _ _ _ (by simp), Below.heap_setCell _ _ _ _ (by simp)]
    simp [World.setCell, Array.getElem?_modify, k0]
  · exact ((hown2.setCell_low (by show B < _; omega) _).setCell_low (by show B + 1 < _; omega) _).setCell_low (by show B + 1 < _; omega) _
  · exact Or.inl ⟨Nat.le_refl _, .slice none 0 0, reset_block h', by simpa [Lib.byteCells] using World.ownsRowF_of (World.ownsRow_nil _ _ _ _), by simp [Value.ownBlock]⟩
  · have b1 : Below B w W1 := hbel1.mono (by omega)
    have b2 : Below B w w2 := (b1.alloc (by omega) o).grown hgrow (by omega) (by
      intro b hb
      have := hown.lt b hb; omega)
    exact ((b2.setCell (p := ⟨B, 0, none⟩) (Nat.le_refl _) _).setCell (p := ⟨B + 1, 0, none⟩) (by show B ≤ B + 1; omega) _).setCell (p := ⟨B + 1, 1, none⟩) (by show B ≤ B + 1; omega) _

set_option maxHeartbeats 1000000 in
set_option maxRecDepth 100000 in
theorem flush_any (B : Nat) (lit : List UInt8) (T : List Tp.Tok) (w : World) (hm : Mem B lit T w) (hT : T.length ≤ 33554432) (hlit : lit.length ≤ 33554432) :
    Calls Tryf.prog 18 #[.pointer (some ⟨B + 1, 0, none⟩), .pointer (some ⟨B, 0, none⟩)] w fun e w' => e = .returned (.tuple #[]) ∧ Mem B [] (Tp.flush lit T) w' ∧ Below B w w' := by
  have hsz := hm.size
  by_cases hl : lit = []
  · subst hl
    go_enter Tryf.func18, Tryf.ntmps18
    go_wp2_with fail
    refine (Tryf.Builder_Len_f (B + 1) (B + 1) _ _ hm.bld).mono ?_
    rintro e w' ⟨rfl, rfl⟩
    go_wp2
    go_end0
    exact ⟨rfl, hm, Below.refl _ _⟩
  · obtain ⟨⟨v, hv, hown⟩, hbld⟩ := hm
    obtain ⟨i0, hi, hz0, hz1, hz2⟩ := info_parts Tryf.info38
    have hlen : 0 < lit.length := List.length_pos_iff.2 hl
    have hcv : w.cell? ⟨B, 0, none⟩ = some v := by rw [Lib.cell_of_heap hv]; rfl
    have hfv : w.frozen? ⟨B, 0, none⟩ = false := by simp [World.frozen?, hv]
    go_enter Tryf.func18, Tryf.ntmps18
    go_wp2_with fail
    refine (Tryf.Builder_Len_f (B + 1) (B + 1) _ _ hbld).mono ?_
    rintro e w' ⟨rfl, rfl⟩
    rw [Lib.byteCells_length]
    go_wp2_with fail
    have hblk := bld_block hbld
    have HB : Hid (∃ p v, w'.heap[B + 1]? = some (.cells #[p, v] 44 (0, 0))) := hblk
    clear hblk
    have hfree : Free B v w'.drew := ⟨hcv, hfv⟩
    have hvne : v.ownBlock ≠ some B := fun e => by have := hown.lt B e; omega
    go_region_law (first
        | (refine step_append_lies _ (by rfl) _ _ _ (by rfl) (B + 2) 38 i0 _ 2 24 Tryf.underlying23 hi hz0 hz1 hz2 rfl (by omega) v T.length (tokCells T) (by rfl) ((row_others hown (by exact hok1) HB.out).alloc _) ⟨W1.heap.size, 0, none⟩ 1 1 (tokCell (lit, false)) (by rfl) (by rfl) (World.news_of_block (cs := #[.string ⟨lit.toArray⟩, .bool false]) (t := 38) (fr := (0, 0)) (heap_alloc_new W1 _)) (by simp [tokCell, Value.oneCell']) (by omega) (by unfold maxLen; omega) (by omega) (by have := hbel1.size; simp at this ⊢; omega) (W1.heap.size + 1) (by simp) ?_; intro g2 cap2 w2 hown2 hgrow2 hat hlt2; have hf2 := (Free.grown (Free.alloc (Free.below hfree hbel1 (Nat.lt_succ_self B)) _) hgrow2 hvne).1; have hf3 := (Free.grown (Free.alloc (Free.below hfree hbel1 (Nat.lt_succ_self B)) _) hgrow2 hvne).2)
        | (go_simp; go_at_call 20; refine (Tryf.Builder_String_any_k (B + 1) (B + 1) lit _ (by exact hbld) (by show B + 1 ≤ w'.heap.size; omega)).mono ?_; rintro e W1 ⟨rfl, hb1, hbel1, hok1⟩; have hf1 := (Free.below hfree hbel1 (Nat.lt_succ_self B)).1; have hf4 := fun o => ((Free.below hfree hbel1 (Nat.lt_succ_self B)).alloc o).1; dsimp only))
    all_goals
      go_wp2_with fail
    all_goals
      have hfin := flush_end (T' := T ++ [(lit, false)]) hv hown hb1 ((Below.refl (B + 1) w').drew.trans hbel1) (by rw [tokCells_append, tokCells_one]; exact hown2) (by simp) hgrow2
      obtain ⟨⟨p, q, hpq⟩, hall⟩ := hfin
      have HA := hall p q hpq
      have HF : Hid (Mem B [] (T ++ [(lit, false)]) _ ∧ Below B w' _) := HA
      clear hall HA
      refine (reset_any (B + 1) p q _ hpq).mono ?_
      rintro e w4 ⟨rfl, rfl⟩
      clear hpq
      go_wp2
      go_end0
      refine ⟨rfl, ?_, HF.out.2⟩
      rw [show Tp.flush lit T = T ++ [(lit, false)] from if_neg hl]
      exact HF.out.1
end Go.Proofs.Qxb6608706aFmt
