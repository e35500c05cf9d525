/-
  THE CLOSURE's MEMORY: the text's block, the row of lines, the row of code points.
-/
import Derived.Test.Qxb6608979aCount
import Derived.Test.Qxb6608979aRune
import Derived.Deep.RegionHeld3
import Derived.Deep.AppendLies
import Derived.Deep.RegionLaw
import Derived.Deep.CutRange
import Derived.Laws.MakeOwn
import Derived.Laws.IdiomStrings
import Derived.Laws.Rows
import Derived.OwnWalk
namespace Go.Proofs.Qxb6608979a
open Go.RowKit

/-- The text's block: the Once's three cells, the source, the lines. -/
def Txt (B : Nat) (src vs : Value) (d st : Int) (W : World) : Prop := W.heap[B]? = some (.cells #[.int .u32 d, .int .i32 st, .int .u32 0, src, vs] 44 (0, 0))
def TB (B : Nat) (W : World) : Prop := ∃ src vs d st, Txt B src vs d st W
def rc (B k : Nat) (W : World) : Value := (W.cell? ⟨B, k, none⟩).getD undef
theorem TB.cell {B : Nat} {W : World} (h : TB B W) (k : Nat) (hk : k < 5) : W.cell? ⟨B, k, none⟩ = some (rc B k W) := by
  obtain ⟨src, vs, d, st, h1⟩ := h
  have e := cell_of_row W B k _ _ _ h1
  unfold rc
  rw [e, Array.getElem?_eq_getElem (by simpa using hk)]
  rfl
theorem TB.frozen {B : Nat} {W : World} (h : TB B W) (k : Nat) : W.frozen? ⟨B, k, none⟩ = false := by
  obtain ⟨src, vs, d, st, h1⟩ := h
  unfold Txt at h1
  simp [World.frozen?, h1]
theorem Txt.lt {B : Nat} {src vs : Value} {d st : Int} {W : World} (h : Txt B src vs d st W) : B < W.heap.size := (Array.getElem?_eq_some_iff.1 h).1
theorem Txt.block {B : Nat} {src vs : Value} {d st : Int} {W W' : World} (h : Txt B src vs d st W) (hb : W'.heap[B]? = W.heap[B]?) : Txt B src vs d st W' := hb.trans h
theorem Txt.set4 {B : Nat} {src vs : Value} {d st : Int} {W : World} (h : Txt B src vs d st W) (v : Value) : Txt B src v d st (W.setCell ⟨B, 4, none⟩ v) := by
  unfold Txt at h ⊢
  simp [World.setCell, Array.getElem?_modify, h]
theorem Txt.set3 {B : Nat} {src vs : Value} {d st : Int} {W : World} (h : Txt B src vs d st W) (v : Value) : Txt B v vs d st (W.setCell ⟨B, 3, none⟩ v) := by
  unfold Txt at h ⊢
  simp [World.setCell, Array.getElem?_modify, h]
theorem Txt.set1 {B : Nat} {src vs : Value} {d st st' : Int} {W : World} (h : Txt B src vs d st W) : Txt B src vs d st' (W.setCell ⟨B, 1, none⟩ (.int .i32 st')) := by
  unfold Txt at h ⊢
  simp [World.setCell, Array.getElem?_modify, h]
theorem Txt.set0 {B : Nat} {src vs : Value} {d d' st : Int} {W : World} (h : Txt B src vs d st W) : Txt B src vs d' st (W.setCell ⟨B, 0, none⟩ (.int .u32 d')) := by
  unfold Txt at h ⊢
  simp [World.setCell, Array.getElem?_modify, h]
theorem Txt.c3 {B : Nat} {src vs : Value} {d st : Int} {W : World} (h : Txt B src vs d st W) : W.cell? ⟨B, 3, none⟩ = some src := (cell_of_row W B 3 _ _ _ h).trans rfl
theorem Txt.c4 {B : Nat} {src vs : Value} {d st : Int} {W : World} (h : Txt B src vs d st W) : W.cell? ⟨B, 4, none⟩ = some vs := (cell_of_row W B 4 _ _ _ h).trans rfl
theorem Txt.c0 {B : Nat} {src vs : Value} {d st : Int} {W : World} (h : Txt B src vs d st W) : W.cell? ⟨B, 0, none⟩ = some (.int .u32 d) := (cell_of_row W B 0 _ _ _ h).trans rfl
theorem Txt.c1 {B : Nat} {src vs : Value} {d st : Int} {W : World} (h : Txt B src vs d st W) : W.cell? ⟨B, 1, none⟩ = some (.int .i32 st) := (cell_of_row W B 1 _ _ _ h).trans rfl
theorem Txt.tb {B : Nat} {src vs : Value} {d st : Int} {W : World} (h : Txt B src vs d st W) : TB B W := ⟨_, _, _, _, h⟩

/-- A line's cells are a piece of the row of code points. -/
def Seg (R : Nat) (rs : List Int) (a : Option Addr) (l : List Int) : Prop := 0 < l.length → ∃ o, a = some ⟨R, o, none⟩ ∧ o + l.length ≤ rs.length ∧ ∀ m (h : m < l.length) (h2 : o + m < rs.length), l[m] = rs[o + m]
def Vals (R : Nat) (rs : List Int) (xs : List Value) (acc : List (List Int)) : Prop := ∀ j (h : j < acc.length), ∃ a c, xs[j]? = some (.slice a acc[j].length c) ∧ Seg R rs a acc[j]

/-- The closure's memory: the text's block, the variable, the row of lines (its own), the row of code points. -/
structure CM (w : World) (B V base R : Nat) (rcs : Array Value) (src vs : Value) (xs : List Value) (n : Nat) (W : World) : Prop where
  txt : Txt B src vs 0 1 W
  var : W.cell? ⟨V, 0, none⟩ = some (.pointer (some ⟨B, 0, none⟩))
  row : W.ownsRow base 27 1 vs n xs
  rune : W.heap[R]? = some (.cells rcs 21 (0, 0))
  bel : Below B w W
  big : base ≤ W.heap.size

theorem CM.drew {w : World} {B V base R : Nat} {rcs : Array Value} {src vs : Value} {xs : List Value} {n : Nat} {W : World} (h : CM w B V base R rcs src vs xs n W) : CM w B V base R rcs src vs xs n W.drew :=
  ⟨h.txt, h.var, h.row, h.rune, h.bel.drew, h.big⟩

theorem row_other {W : World} {base g k : Nat} {e : TypeId} {v : Value} {n : Nat} {xs : List Value} (h : W.ownsRow base e 1 v n xs) (hk : k < base) (hg : v.ownBlock = some g) : g ≠ k := by
  have := (h.lt g hg).1; omega
theorem row_rune {W : World} {base R : Nat} {v : Value} {n : Nat} {xs : List Value} {rcs : Array Value} (h : W.ownsRow base 27 1 v n xs) (hr : W.heap[R]? = some (.cells rcs 21 (0, 0))) : some R ≠ v.ownBlock := by
  rcases h.2 with ⟨rfl, _⟩ | ⟨g, cap, cur, rfl, _, hg, _⟩
  · simp [Value.ownBlock]
  · simp only [Value.ownBlock, ne_eq, Option.some.injEq]
    intro e; subst e; rw [hr] at hg; cases hg

theorem CM.push {w : World} {B V base R : Nat} {rcs : Array Value} {src vs v2 nv : Value} {xs : List Value} {n : Nat} {W w2 : World} {o : Obj} (h : CM w B V base R rcs src vs xs n W) (hB : B < base) (hV : V < base) (hVB : V ≠ B)
    (hown : w2.ownsRow base 27 1 v2 (n + 1) (xs ++ [nv])) (hg : (W.alloc o).grownBy w2 vs.ownBlock) : CM w B V base R rcs src v2 (xs ++ [nv]) (n + 1) (w2.setCell ⟨B, 4, none⟩ v2) := by
  have hsz : (W.alloc o).heap.size = W.heap.size + 1 := by simp
  have hRlt : R < W.heap.size := (Array.getElem?_eq_some_iff.1 h.rune).1
  have hb : ∀ k, k < W.heap.size → some k ≠ vs.ownBlock → w2.heap[k]? = W.heap[k]? := fun k hk hne => by
    rw [hg.block k (by omega) hne]; exact Below.heap_alloc _ _ _ hk
  have hne : ∀ k, k < base → some k ≠ vs.ownBlock := fun k hk e => row_other h.row hk e.symm rfl
  have hBs := h.txt.lt
  have hVs : V < W.heap.size := World.block_lt_of_cell? W _ h.var
  have ht : Txt B src vs 0 1 w2 := h.txt.block (hb B hBs (hne B hB))
  have hown4 : v2.ownBlock = none ∨ ∃ g, v2.ownBlock = some g ∧ g ≠ B := by
    cases hv : v2.ownBlock with
    | none => exact .inl rfl
    | some g => exact .inr ⟨g, rfl, row_other hown hB hv⟩
  refine ⟨ht.set4 v2, ?_, ?_, ?_, ?_, ?_⟩
  · rw [World.cell?_setCell_far _ _ _ _ (by simpa using hVB.symm), World.cell?_of_block (w := W) (hb V hVs (hne V hV))]; exact h.var
  · refine ⟨hown.1, ?_⟩
    rcases hown.2 with hn | ⟨g, cap, cur, e1, e2, e3, e4⟩
    · exact .inl hn
    · exact .inr ⟨g, cap, cur, e1, e2, by rw [Below.heap_setCell _ _ _ _ (by have := e2; simp; omega)]; exact e3, e4⟩
  · by_cases hRB : R = B
    · subst hRB; have := h.rune; rw [h.txt] at this; cases this
    · rw [Below.heap_setCell _ _ _ _ (by simpa using hRB), hb R hRlt (row_rune h.row h.rune)]; exact h.rune
  · exact ((h.bel.alloc (by omega) o).grown hg (by simp; omega) (fun b hb => by have := (h.row.lt b hb).1; omega)).setCell (p := ⟨B, 4, none⟩) (Nat.le_refl _) v2
  · have := hg.size; have := h.big; simp; omega

theorem CM.alloc {w : World} {B V base R : Nat} {rcs : Array Value} {src vs : Value} {xs : List Value} {n : Nat} {W : World} {ob : Obj} (h : CM w B V base R rcs src vs xs n W) :
    (W.alloc ob).cell? ⟨V, 0, none⟩ = some (.pointer (some ⟨B, 0, none⟩)) ∧ (W.alloc ob).cell? ⟨B, 4, none⟩ = some vs ∧ (W.alloc ob).frozen? ⟨B, 4, none⟩ = false := by
  have ht : Txt B src vs 0 1 (W.alloc ob) := h.txt.block (Below.heap_alloc _ _ _ h.txt.lt)
  exact ⟨by rw [World.cell?_of_block (w := W) (Below.heap_alloc _ _ _ (World.block_lt_of_cell? W _ h.var))]; exact h.var, ht.c4, ht.tb.frozen 4⟩
theorem CM.grown {w : World} {B V base R : Nat} {rcs : Array Value} {src vs : Value} {xs : List Value} {n : Nat} {W w2 : World} {ob : Obj} (h : CM w B V base R rcs src vs xs n W) (hB : B < base) (hV : V < base) (hg : (W.alloc ob).grownBy w2 vs.ownBlock) :
    w2.cell? ⟨V, 0, none⟩ = some (.pointer (some ⟨B, 0, none⟩)) ∧ w2.cell? ⟨B, 4, none⟩ = some vs ∧ w2.frozen? ⟨B, 4, none⟩ = false := by
  have hsz : (W.alloc ob).heap.size = W.heap.size + 1 := by simp
  have hb : ∀ k, k < W.heap.size → k < base → w2.heap[k]? = W.heap[k]? := fun k hk hkb => by
    rw [hg.block k (by omega) (fun e => row_other h.row hkb e.symm rfl)]; exact Below.heap_alloc _ _ _ hk
  have ht : Txt B src vs 0 1 w2 := h.txt.block (hb B h.txt.lt hB)
  exact ⟨by rw [World.cell?_of_block (w := W) (hb V (World.block_lt_of_cell? W _ h.var) hV)]; exact h.var, ht.c4, ht.tb.frozen 4⟩

/-- What the closure leaves. -/
def CloPost (w : World) (B V : Nat) (s : ByteArray) (w' : World) : Prop :=
  ∃ R c vs xs, CM w B V w.heap.size R (runeRow s c) (.string ⟨#[]⟩) vs xs (lns (rn s)).length w' ∧ Vals R (rn s) xs (lns (rn s))

def lenOf : Value → Nat
  | .slice _ n _ => n
  | _ => 0
/-- The loop's relation: what is left, what is gathered. -/
def LR (w : World) (B V R : Nat) (s : ByteArray) (c : Nat) (ch : Value) (wr : World) : Prop :=
  ∃ p o cc vs xs acc, p ≤ (rn s).length ∧ ch = .slice (some ⟨R, o, none⟩) ((rn s).drop p).length cc ∧ ((rn s).drop p).length ≤ cc ∧ (p < (rn s).length → o = p) ∧
    CM w B V w.heap.size R (runeRow s c) (.string ⟨#[]⟩) vs xs acc.length wr ∧ Vals R (rn s) xs acc ∧ acc ++ lns ((rn s).drop p) = lns (rn s)

theorem runes_of {W : World} {R p o c : Nat} {s : ByteArray} (hr : W.heap[R]? = some (.cells (runeRow s c) 21 (0, 0))) (hop : p < (rn s).length → o = p) : Runes W (some ⟨R, o, none⟩) ((rn s).drop p) := fun hl => by
  have hp : p < (rn s).length := by simp at hl; omega
  obtain rfl := hop hp
  refine ⟨R, o, rfl, (Array.getElem?_eq_some_iff.1 hr).1, fun m hm => ?_⟩
  rw [cell_of_row W R (o + m) _ _ _ hr, runeRow_at s c (o + m) (by simp at hm; omega)]
  simp
theorem seg_take {R p o : Nat} {rs : List Int} (hop : p < rs.length → o = p) (k : Nat) : Seg R rs (some ⟨R, o, none⟩) ((rs.drop p).take k) := fun hl => by
  have hp : p < rs.length := by simp at hl; omega
  obtain rfl := hop hp
  refine ⟨o, rfl, by simp; omega, fun m hm h2 => by simp⟩
theorem Vals.push {R : Nat} {rs : List Int} {xs : List Value} {acc : List (List Int)} {a : Option Addr} {c n : Nat} {y : List Int} (h : Vals R rs xs acc) (hx : xs.length = acc.length) (hn : y.length = n) (hs : Seg R rs a y) : Vals R rs (xs ++ [.slice a n c]) (acc ++ [y]) := by
  intro j hj
  by_cases hjl : j < acc.length
  · obtain ⟨a', c', h1, h2⟩ := h j hjl
    refine ⟨a', c', ?_, ?_⟩
    · rw [List.getElem?_append_left (by omega), List.getElem_append_left hjl]; exact h1
    · rw [List.getElem_append_left hjl]; exact h2
  · obtain rfl : j = acc.length := by simp at hj; omega
    refine ⟨a, c, ?_, ?_⟩
    · rw [List.getElem?_append_right (by omega)]; simp [hx, hn]
    · simpa using hs

theorem grown_drew {W w2 : World} {r : Option Nat} (h : W.drew.grownBy w2 r) : W.grownBy w2 r := ⟨h.os, h.tape, h.output, h.size, h.block⟩

theorem clo_end {w : World} {B V R o c kk cc : Nat} {s : ByteArray} {vs v2 : Value} {xs : List Value} {acc : List (List Int)} {l : List Int} {W w2 : World} {ob : Obj} (h : CM w B V w.heap.size R (runeRow s c) (.string ⟨#[]⟩) vs xs acc.length W) (hB : B < w.heap.size) (hV : V < w.heap.size) (hVB : V ≠ B)
    (hvl : Vals R (rn s) xs acc) (hac : acc ++ lns l = lns (rn s)) (hln : lns l = [cr l]) (hsg : ∀ k, Seg R (rn s) (some ⟨R, o, none⟩) (l.take k)) (hkk : kk ≤ l.length) (hcr : cr l = l.take kk)
    (hown : w2.ownsRow w.heap.size 27 1 v2 (acc.length + 1) (xs ++ [.slice (some ⟨R, o, none⟩) kk cc])) (hg : (W.alloc ob).grownBy w2 vs.ownBlock) : CloPost w B V s (w2.setCell ⟨B, 4, none⟩ v2) := by
  have hL : lns (rn s) = acc ++ [l.take kk] := by rw [← hac, hln, hcr]
  have hcm := h.push hB hV hVB hown hg
  have hv : Vals R (rn s) (xs ++ [.slice (some ⟨R, o, none⟩) kk cc]) (acc ++ [l.take kk]) := hvl.push (by have := h.row.1; omega) (by simp; omega) (hsg kk)
  refine ⟨R, c, v2, xs ++ [.slice (some ⟨R, o, none⟩) kk cc], ?_, ?_⟩
  · have e : (lns (rn s)).length = acc.length + 1 := by rw [hL]; simp
    rw [e]; exact hcm
  · rw [hL]; exact hv

theorem clo_push {w : World} {B V R o c kk cc n : Nat} {s : ByteArray} {vs v2 : Value} {xs : List Value} {acc : List (List Int)} {l : List Int} {W w2 : World} {ob : Obj} (h : CM w B V w.heap.size R (runeRow s c) (.string ⟨#[]⟩) vs xs acc.length W) (hB : B < w.heap.size) (hV : V < w.heap.size) (hVB : V ≠ B)
    (hvl : Vals R (rn s) xs acc) (hsg : ∀ k, Seg R (rn s) (some ⟨R, o, none⟩) (l.take k)) (hkk : kk ≤ n) (hn : n = l.length) (hcr : cr l = l.take kk)
    (hown : w2.ownsRow w.heap.size 27 1 v2 (acc.length + 1) (xs ++ [.slice (some ⟨R, o, none⟩) kk cc])) (hg : (W.alloc ob).grownBy w2 vs.ownBlock) :
    ∃ vs' xs', CM w B V w.heap.size R (runeRow s c) (.string ⟨#[]⟩) vs' xs' (acc.length + 1) (w2.setCell ⟨B, 4, none⟩ v2) ∧ Vals R (rn s) xs' (acc ++ [cr l]) := by
  refine ⟨v2, xs ++ [.slice (some ⟨R, o, none⟩) kk cc], h.push hB hV hVB hown hg, ?_⟩
  rw [hcr]
  exact hvl.push (by have := h.row.1; omega) (by simp; omega) (hsg kk)

theorem lr_next {w : World} {B V R p o' k cc' cc0 o0 c : Nat} {s : ByteArray} {vs' : Value} {xs' : List Value} {acc : List (List Int)} {l : List Int} {W : World} (hl : (rn s).drop p = l) (hk : k < l.length) (hcc : l.length - (k + 1) ≤ cc')
    (hop : p + (k + 1) < (rn s).length → o' = p + (k + 1)) (h : CM w B V w.heap.size R (runeRow s c) (.string ⟨#[]⟩) vs' xs' (acc.length + 1) W) (hvl : Vals R (rn s) xs' (acc ++ [cr (l.take k)]))
    (hac : acc ++ lns l = lns (rn s)) (hln : lns l = cr (l.take k) :: lns (l.drop (k + 1))) :
    LR w B V R s c (.slice (some ⟨R, o', none⟩) (l.length - (k + 1)) cc') W ∧ lenOf (.slice (some ⟨R, o', none⟩) (l.length - (k + 1)) cc') < lenOf (.slice (some ⟨R, o0, none⟩) l.length cc0) := by
  have hd : (rn s).drop (p + (k + 1)) = l.drop (k + 1) := by rw [← hl, List.drop_drop]
  have hdl : ((rn s).drop (p + (k + 1))).length = l.length - (k + 1) := by rw [hd]; simp
  have hll : l.length = (rn s).length - p := by rw [← hl]; simp
  refine ⟨⟨p + (k + 1), o', cc', vs', xs', acc ++ [cr (l.take k)], by omega, by rw [hdl], by rw [hdl]; exact hcc, hop, by simpa using h, hvl, ?_⟩, by simp only [lenOf]; omega⟩
  rw [hd, ← hac, hln]; simp

theorem start_mem {w : World} {B V : Nat} {s : ByteArray} {vs : Value} {W1 : World} (hBlt : B < w.heap.size) (hVB : V ≠ B) (hT : Txt B (.string s) vs 0 1 W1) (hV : W1.cell? ⟨V, 0, none⟩ = some (.pointer (some ⟨B, 0, none⟩)))
    (hR : W1.ownsRow w.heap.size 27 1 vs 0 []) (hb : Below B w W1) (hsz : w.heap.size ≤ W1.heap.size) (c : Nat) :
    (W1.drew.alloc (.cells (runeRow s c) 21)).cell? ⟨V, 0, none⟩ = some (.pointer (some ⟨B, 0, none⟩)) ∧ (W1.drew.alloc (.cells (runeRow s c) 21)).cell? ⟨B, 3, none⟩ = some (.string s) ∧ (W1.drew.alloc (.cells (runeRow s c) 21)).frozen? ⟨B, 3, none⟩ = false ∧
    CM w B V w.heap.size W1.heap.size (runeRow s c) (.string ⟨#[]⟩) vs [] 0 ((W1.drew.alloc (.cells (runeRow s c) 21)).setCell ⟨B, 3, none⟩ (.string ⟨#[]⟩)) := by
  have hBe : (W1.drew.alloc (.cells (runeRow s c) 21)).heap[B]? = W1.heap[B]? := Below.heap_alloc _ _ _ hT.lt
  have hVe : (W1.drew.alloc (.cells (runeRow s c) 21)).heap[V]? = W1.heap[V]? := Below.heap_alloc _ _ _ (World.block_lt_of_cell? W1 _ hV)
  have hT2 : Txt B (.string s) vs 0 1 (W1.drew.alloc (.cells (runeRow s c) 21)) := hT.block hBe
  have hV2 : (W1.drew.alloc (.cells (runeRow s c) 21)).cell? ⟨V, 0, none⟩ = some (.pointer (some ⟨B, 0, none⟩)) := by rw [World.cell?_of_block (w := W1) hVe]; exact hV
  have hnew : (W1.drew.alloc (.cells (runeRow s c) 21)).heap[W1.heap.size]? = some (.cells (runeRow s c) 21 (0, 0)) := heap_alloc_new W1.drew _
  refine ⟨hV2, hT2.c3, hT2.tb.frozen 3, hT2.set3 _, ?_, ?_, ?_, ?_, ?_⟩
  · rw [World.cell?_setCell_far _ _ _ _ (by simpa using hVB.symm)]; exact hV2
  · refine ⟨hR.1, ?_⟩
    rcases hR.2 with hn | ⟨g, cap, cur, e1, e2, e3, e4⟩
    · exact .inl hn
    · refine .inr ⟨g, cap, cur, e1, e2, ?_, e4⟩
      rw [Below.heap_setCell _ _ _ _ (by simp; omega)]
      exact (Below.heap_alloc W1.drew _ _ (Array.getElem?_eq_some_iff.1 e3).1).trans e3
  · rw [Below.heap_setCell _ _ _ _ (by have := hT.lt; simp; omega)]; exact hnew
  · exact ((hb.drew).alloc (by have := hT.lt; simp; omega) _).setCell (p := ⟨B, 3, none⟩) (Nat.le_refl _) _
  · simp; omega

/-- What the closure does (Clo.lean has the proof). -/
def CloHolds : Prop := ∀ (B V : Nat) (s : ByteArray) (w : World), Txt B (.string s) (.slice none 0 0) 0 1 w → w.cell? ⟨V, 0, none⟩ = some (.pointer (some ⟨B, 0, none⟩)) → V ≠ B → s.size ≤ 1048576 →
    Calls Try.prog 12 #[.pointer (some ⟨V, 0, none⟩)] w fun e w' => e = .returned (.tuple #[]) ∧ CloPost w B V s w'
end Go.Proofs.Qxb6608979a
