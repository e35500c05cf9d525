/-
  THE WALKS of zzEscape and zzRender: 'Tp.esc', 'Tp.rend'.
-/
import Derived.Lib.AppendStr
import Derived.Laws.BytesArg
import Derived.Laws.IdiomStrings
import Derived.Test.Qxb6608706aFmtSmall
namespace Go.Proofs.Qxb6608706aFmt
open Go.RowKit

theorem Tryf.info5 : (Tryf.prog.info? 5).map (fun i => (i.zero, i.size, i.bytes)) = some (some (.int .u8 0), 1, 1) := by kernel_rfl

theorem byteCells_one (a : List UInt8) : ∀ u ∈ Lib.byteCells a, u.oneCell' = true := by
  intro u hu
  simp only [Lib.byteCells, List.mem_map] at hu
  obtain ⟨b, _, rfl⟩ := hu
  rfl

/-- out holds the bytes acc, in a row of the call's own (or is nil and holds none). -/
structure Own (w : World) (out : Value) (acc : List UInt8) (wr : World) : Prop where
  row : wr.ownsRow w.heap.size 5 1 out acc.length (Lib.byteCells acc)
  bel : Below w.heap.size w wr

theorem Own.push {w wr w2 : World} {out out2 : Value} {acc news : List UInt8} {n : Nat} {o : Obj} (h : Own w out acc wr) (hn : n = acc.length + news.length)
    (hown2 : w2.ownsRow w.heap.size 5 1 out2 n (Lib.byteCells acc ++ Lib.byteCells news)) (hgrow : (wr.alloc o).grownBy w2 out.ownBlock) : Own w out2 (acc ++ news) w2 := by
  subst hn
  have hl : (acc ++ news).length = acc.length + news.length := by simp
  refine ⟨?_, ?_⟩
  · rw [hl, Lib.byteCells_append]; exact hown2
  · exact (h.bel.alloc h.bel.size _).grown hgrow (by have := h.bel.size; simp; omega) (fun b hb => (h.row.lt b hb).1)

theorem Own.push0 {w wr w2 : World} {out out2 : Value} {acc news : List UInt8} {n : Nat} (h : Own w out acc wr) (hn : n = acc.length + news.length)
    (hown2 : w2.ownsRow w.heap.size 5 1 out2 n (Lib.byteCells acc ++ Lib.byteCells news)) (hgrow : wr.grownBy w2 out.ownBlock) : Own w out2 (acc ++ news) w2 := by
  subst hn
  have hl : (acc ++ news).length = acc.length + news.length := by simp
  refine ⟨?_, ?_⟩
  · rw [hl, Lib.byteCells_append]; exact hown2
  · exact h.bel.grown hgrow h.bel.size (fun b hb => (h.row.lt b hb).1)

theorem Own.below {w wr w' : World} {out : Value} {acc : List UInt8} (h : Own w out acc wr) (hb : Below wr.heap.size wr w') : Own w out acc w' := by
  refine ⟨⟨h.row.1, ?_⟩, h.bel.trans (hb.mono h.bel.size)⟩
  rcases h.row.2 with hn | ⟨g, cap, cur, hv, hbg, hg, rest⟩
  · exact .inl hn
  · exact .inr ⟨g, cap, cur, hv, hbg, (hb.block g (Array.getElem?_eq_some_iff.1 hg).1).trans hg, rest⟩

/-- 'string(out)'. -/
theorem Own.conv {w wr : World} {out : Value} {acc : List UInt8} (h : Own w out acc wr) : (convert 40 9 out).run Tryf.prog wr = .ok (.string ⟨acc.toArray⟩) wr := by
  rcases h.row.2 with ⟨rfl, hn⟩ | ⟨g, cap, cur, rfl, hbg, hg, rest⟩
  · obtain rfl : acc = [] := List.length_eq_zero_iff.1 hn
    rw [run_convert_bytes_nil wr 40 5 Tryf.underlying40 Tryf.underlying5 0 0 9 Tryf.underlying9]; rfl
  · refine run_convert_bytes_back wr 40 9 5 ⟨g, 0, none⟩ cap acc Tryf.underlying40 Tryf.underlying5 Tryf.underlying9 ?_
    intro j hj
    have hadd : (⟨g, 0, none⟩ : Addr).add j = ⟨g, j, none⟩ := by unfold Addr.add; split <;> simp_all
    rw [hadd, h.row.cellAt j (by omega)]
    simp [Lib.byteCells, List.getElem?_eq_getElem hj]

theorem esc_le : ∀ l : List UInt8, (Tp.esc l).length ≤ 2 * l.length
  | [] => by simp [Tp.esc]
  | c :: l => by
    have h1 := esc_le l
    have h2 : (Tp.esc1 c).length ≤ 2 := by unfold Tp.esc1; split <;> simp
    simp [Tp.esc]; omega

theorem take_snoc (s : ByteArray) (k : Nat) (h : k < s.size) : s.data.toList.take (k + 1) = s.data.toList.take k ++ [s[k]] := by
  rw [List.take_succ_eq_append_getElem (by simpa using h)]; rfl

theorem esc_snoc (s : ByteArray) (k : Nat) (h : k < s.size) : Tp.esc (s.data.toList.take (k + 1)) = Tp.esc (s.data.toList.take k) ++ Tp.esc1 s[k] := by
  rw [take_snoc s k h, Tp.esc_append]; simp [Tp.esc]

def EscRel (s : ByteArray) (w : World) (out i : Value) (wr : World) : Prop :=
  ∃ k : Nat, k ≤ s.size ∧ i = .int .i64 k ∧ Own w out (Tp.esc (s.data.toList.take k)) wr

set_option maxHeartbeats 1000000 in
set_option maxRecDepth 100000 in
theorem escape_any (s : ByteArray) (w : World) (hs : s.size ≤ 16777216) :
    Calls Tryf.prog 17 #[.string s] w fun e w' => e = .returned (.string ⟨(Tp.esc s.data.toList).toArray⟩) ∧ Below w.heap.size w w' := by
  obtain ⟨i0, hi, hz0, hz1, hz2⟩ := info_parts Tryf.info5
  go_enter Tryf.func17, Tryf.ntmps17
  go_wp2_with (at_make; refine wpList_make_own _ rfl _ _ 40 rfl w.heap.size 5 i0 (.int .u8 0) 1 Tryf.underlying40 hi hz0 hz1 _ _ _ (2 * s.size) rfl rfl (by omega) (by rw [hz2]; omega) (by unfold maxLen; omega) (Nat.le_refl _) ?_; intro w1 hown1 hgrow1)
  go_loopw [3, 4] (fun out i wr => EscRel s w out i wr) (fun _ i _ => s.size - (intOf i).toNat)
  case atStart => exact ⟨0, Nat.zero_le _, rfl, ⟨hown1, (Below.refl _ _).grown hgrow1 (Nat.le_refl _) (by intro b hb; simp at hb)⟩⟩
  case round =>
    clear hown1 hgrow1
    obtain ⟨k, hk, rfl, ho⟩ := hrel
    have hEl : (Tp.esc (s.data.toList.take k)).length ≤ 2 * k := by
      have := esc_le (s.data.toList.take k); have := List.length_take_le k s.data.toList; omega
    generalize hE : Tp.esc (s.data.toList.take k) = E at *
    have HE : Hid (Tp.esc (s.data.toList.take k) = E) := hE
    clear hE
    have hsz := ho.bel.size
    by_cases hlt : k < s.size
    · have HN : Hid (Tp.esc (s.data.toList.take (k + 1)) = E ++ Tp.esc1 s[k]) := by rw [← HE.out]; exact esc_snoc s k hlt
      by_cases hb : Tp.brace s[k]
      · have HB : Hid (Tp.esc1 s[k] = [s[k]] ++ [s[k]]) := by unfold Tp.esc1; rw [if_pos (show s[k] = 123 ∨ s[k] = 125 from hb)]; rfl
        rcases hb with hc | hc
        focus
          have h123 := beq_123_t hc
          clear hc
        rotate_left
        focus
          have h123 : ((s[k].toNat : Int) == 123) = false := by rw [hc]; decide
          have h125 := beq_125_t hc
          clear hc
        all_goals
          go_wp2_with (first
            | (at_builtin; refine wpList_append_lies _ rfl (.tmp 15) (.tmp 19) _ rfl w.heap.size 5 i0 _ 1 1 Tryf.underlying40 hi hz0 hz1 hz2 rfl (by omega) _ E.length (Lib.byteCells E) rfl (ho.row.alloc _) ⟨wr.heap.size, 0, none⟩ 1 1 (Lib.byteCells [s[k]]) rfl rfl (World.news_of_block (cs := #[.int .u8 (s[k].toNat : Int)]) (t := 5) (fr := (0, 0)) (heap_alloc_new wr _)) (byteCells_one _) (by omega) (by unfold maxLen; omega) (by omega) (by simp; omega) (wr.heap.size + 1) (by simp) ?_; intro g2 cap2 w2 hown2 hgrow2 hat hlt2)
            | (at_builtin; refine wpList_append_lies _ rfl (.tmp 31) (.tmp 35) _ rfl w.heap.size 5 i0 _ 1 1 Tryf.underlying40 hi hz0 hz1 hz2 rfl (by omega) _ (E.length + 1) (Lib.byteCells E ++ Lib.byteCells [s[k]]) rfl (hown2.alloc _) ⟨w2.heap.size, 0, none⟩ 1 1 (Lib.byteCells [s[k]]) rfl rfl (World.news_of_block (cs := #[.int .u8 (s[k].toNat : Int)]) (t := 5) (fr := (0, 0)) (heap_alloc_new w2 _)) (byteCells_one _) (by omega) (by unfold maxLen; omega) (by omega) (by have := hgrow2.size; simp at this ⊢; omega) (w2.heap.size + 1) (by simp) ?_; intro g3 cap3 w3 hown3 hgrow3 hat3 hlt3))
          go_roundw
          case rel =>
            refine ⟨k + 1, hlt, by go_num, ?_⟩
            rw [HN.out, HB.out, ← List.append_assoc]
            exact (ho.push rfl hown2 hgrow2).push (n := E.length + 1 + 1) (by simp) (by rw [Lib.byteCells_append]; exact hown3) hgrow3
          case measure => simp [intOf]; omega
      · have HB : Hid (Tp.esc1 s[k] = [s[k]]) := by unfold Tp.esc1; rw [if_neg (show ¬ (s[k] = 123 ∨ s[k] = 125) from hb)]; rfl
        have h123 := beq_123_f (fun e => hb (Or.inl e))
        have h125 := beq_125_f (fun e => hb (Or.inr e))
        clear hb
        go_wp2_with (at_builtin; refine wpList_append_lies _ rfl (.tmp 15) (.tmp 19) _ rfl w.heap.size 5 i0 _ 1 1 Tryf.underlying40 hi hz0 hz1 hz2 rfl (by omega) _ E.length (Lib.byteCells E) rfl (ho.row.alloc _) ⟨wr.heap.size, 0, none⟩ 1 1 (Lib.byteCells [s[k]]) rfl rfl (World.news_of_block (cs := #[.int .u8 (s[k].toNat : Int)]) (t := 5) (fr := (0, 0)) (heap_alloc_new wr _)) (byteCells_one _) (by omega) (by unfold maxLen; omega) (by omega) (by simp; omega) (wr.heap.size + 1) (by simp) ?_; intro g2 cap2 w2 hown2 hgrow2 hat hlt2)
        go_roundw
        case rel =>
          refine ⟨k + 1, hlt, by go_num, ?_⟩
          rw [HN.out, HB.out]
          exact ho.push rfl hown2 hgrow2
        case measure => simp [intOf]; omega
    · have hcv := ho.conv
      have hb := ho.bel
      clear ho
      go_wp2
      go_ret
      refine ⟨?_, hb⟩
      rw [← HE.out, List.take_of_length_le (by simp; omega)]
      rfl

/-! ### the pieces as two slices -/
/-- The texts of T lie from block g's head on. -/
structure Strs (g : Nat) (T : List Tp.Tok) (w : World) : Prop where
  lt : g < w.heap.size
  cell : ∀ j (h : j < T.length), w.cell? ⟨g, j, none⟩ = some (.string ⟨(T[j].1).toArray⟩)
/-- The marks of T lie from block g's head on. -/
structure Bools (g : Nat) (T : List Tp.Tok) (w : World) : Prop where
  lt : g < w.heap.size
  cell : ∀ j (h : j < T.length), w.cell? ⟨g, j, none⟩ = some (.bool (T[j].2))

theorem Strs.below {g : Nat} {T : List Tp.Tok} {w w' : World} (h : Strs g T w) (hb : Below w.heap.size w w') : Strs g T w' :=
  ⟨by have := hb.size; have := h.lt; omega, fun j hj => (hb.cell (p := ⟨g, j, none⟩) h.lt).trans (h.cell j hj)⟩
theorem Bools.below {g : Nat} {T : List Tp.Tok} {w w' : World} (h : Bools g T w) (hb : Below w.heap.size w w') : Bools g T w' :=
  ⟨by have := hb.size; have := h.lt; omega, fun j hj => (hb.cell (p := ⟨g, j, none⟩) h.lt).trans (h.cell j hj)⟩

theorem rend_snoc (T : List Tp.Tok) (k : Nat) (h : k < T.length) : Tp.rend (T.take (k + 1)) = Tp.rend (T.take k) ++ Tp.rend1 T[k] := by
  rw [List.take_succ_eq_append_getElem h, Tp.rend_append]; simp [Tp.rend]
theorem rend_take_le (T : List Tp.Tok) (k : Nat) : (Tp.rend (T.take k)).length ≤ (Tp.rend T).length := by
  have : Tp.rend T = Tp.rend (T.take k) ++ Tp.rend (T.drop k) := by rw [← Tp.rend_append, List.take_append_drop]
  rw [this]; simp

def RendRel (T : List Tp.Tok) (w : World) (out i : Value) (wr : World) : Prop :=
  ∃ k : Nat, k ≤ T.length ∧ i = .int .i64 k ∧ Own w out (Tp.rend (T.take k)) wr

set_option maxHeartbeats 1000000 in
set_option maxRecDepth 100000 in
theorem render_any (T : List Tp.Tok) (g1 c1 g2 c2 : Nat) (w : World) (h1 : Strs g1 T w) (h2 : Bools g2 T w) (hT : T.length ≤ 16777216) (hR : (Tp.rend T).length ≤ 67108864) (ht : ∀ t ∈ T, t.1.length ≤ 16777216) :
    Calls Tryf.prog 10 #[.slice (some ⟨g1, 0, none⟩) T.length c1, .slice (some ⟨g2, 0, none⟩) T.length c2] w fun e w' => e = .returned (.string ⟨(Tp.rend T).toArray⟩) ∧ Below w.heap.size w w' := by
  obtain ⟨i0, hi, hz0, hz1, hz2⟩ := info_parts Tryf.info5
  have H1 : Hid (Strs g1 T w) := h1
  have H2 : Hid (Bools g2 T w) := h2
  have HT : Hid (∀ t ∈ T, t.1.length ≤ 16777216) := ht
  clear h1 h2 ht
  go_enter Tryf.func10, Tryf.ntmps10
  go_wp2_with fail
  go_loopw [5, 6] (fun out i wr => RendRel T w out i wr) (fun _ i _ => T.length - (intOf i).toNat)
  case atStart => exact ⟨0, Nat.zero_le _, rfl, ⟨World.ownsRow_nil _ _ _ _, Below.refl _ _⟩⟩
  case round =>
    obtain ⟨k, hk, rfl, ho⟩ := hrel
    have hEl := rend_take_le T k
    have hsz := ho.bel.size
    by_cases hlt : k < T.length
    · have hEl2 := rend_take_le T (k + 1)
      have HN : Hid (Tp.rend (T.take (k + 1)) = Tp.rend (T.take k) ++ Tp.rend1 T[k]) := rend_snoc T k hlt
      rw [HN.out, List.length_append] at hEl2
      generalize hE : Tp.rend (T.take k) = E at *
      clear hE
      have HC : Hid (∀ W, Below w.heap.size w W → W.cell? ⟨g1, k, none⟩ = some (.string ⟨(T[k].1).toArray⟩)) := fun W hW => (H1.out.below hW).cell k hlt
      have cfl := (H2.out.below ho.bel).cell k hlt
      have htk := HT.out T[k] (List.getElem_mem hlt)
      generalize hTk : T[k] = t at *
      clear hTk
      obtain ⟨tx, fl⟩ := t
      have hsx : (⟨tx.toArray⟩ : ByteArray).size = tx.length := by show tx.toArray.size = _; simp
      have hsc : Lib.strCells ⟨tx.toArray⟩ = Lib.byteCells tx := by rw [Lib.strCells_eq]
      have HSC : Hid (Lib.strCells ⟨tx.toArray⟩ = Lib.byteCells tx) := hsc
      have HSX : Hid ((⟨tx.toArray⟩ : ByteArray).size = tx.length) := hsx
      clear hsc hsx
      cases fl with
      | true =>
        have HB : Hid (Tp.rend1 (tx, true) = [123] ++ tx ++ [125]) := by simp [Hid, Tp.rend1]
        have hlx : E.length + tx.length + 2 ≤ 67108864 := by
          rw [HB.out] at hEl2; simp at hEl2; omega
        go_wp2_with (first
          | (at_builtin; refine wpList_append_lies _ rfl (.tmp 17) (.tmp 18) _ rfl w.heap.size 5 i0 _ 1 1 Tryf.underlying40 hi hz0 hz1 hz2 rfl (by omega) _ E.length (Lib.byteCells E) rfl (ho.row.alloc _) ⟨wr.heap.size, 0, none⟩ 1 1 (Lib.byteCells [123]) rfl rfl (World.news_of_block (cs := #[.int .u8 123]) (t := 5) (fr := (0, 0)) (heap_alloc_new wr _)) (byteCells_one _) (by omega) (by unfold maxLen; omega) (by omega) (by simp; omega) (wr.heap.size + 1) (by simp) ?_; intro g3 cap3 w3 hown3 hgrow3 hat3 hlt3; have ho3 := Own.push (n := E.length + 1) (news := [123]) ho rfl hown3 hgrow3; have ctx := HC.out w3 ho3.bel)
          | (at_builtin; refine Lib.wpList_append_own_string _ rfl (.tmp 20) (.tmp 24) 40 9 rfl w.heap.size 5 i0 Tryf.underlying40 Tryf.underlying9 hi hz0 hz1 hz2 _ (E.length + 1) (Lib.byteCells (E ++ [123])) rfl (by have := ho3.row; simp only [List.length_append, List.length_cons, List.length_nil] at this; exact this) ⟨tx.toArray⟩ rfl (by rw [HSX.out]; unfold maxLen; omega) (by rw [HSX.out]; omega) ho3.bel.size ?_; intro v4 w4 hown4 hgrow4 _; have ho4 := Own.push0 (n := E.length + 1 + (⟨tx.toArray⟩ : ByteArray).size) (news := tx) ho3 (by rw [HSX.out]; simp) (by rw [← HSC.out]; exact hown4) hgrow4)
          | (at_builtin; refine wpList_append_lies _ rfl (.tmp 26) (.tmp 27) _ rfl w.heap.size 5 i0 _ 1 1 Tryf.underlying40 hi hz0 hz1 hz2 rfl (by omega) _ (E ++ [123] ++ tx).length (Lib.byteCells (E ++ [123] ++ tx)) rfl (ho4.row.alloc _) ⟨w4.heap.size, 0, none⟩ 1 1 (Lib.byteCells [125]) rfl rfl (World.news_of_block (cs := #[.int .u8 125]) (t := 5) (fr := (0, 0)) (heap_alloc_new w4 _)) (byteCells_one _) (by omega) (by unfold maxLen; simp; omega) (by simp; omega) (by have := ho4.bel.size; simp; omega) (w4.heap.size + 1) (by simp) ?_; intro g5 cap5 w5 hown5 hgrow5 hat5 hlt5))
        go_roundw
        case rel =>
          refine ⟨k + 1, hlt, by go_num, ?_⟩
          rw [HN.out, HB.out]
          have := Own.push (news := [125]) ho4 rfl hown5 hgrow5
          simpa using this
        case measure => simp [intOf]; omega
      | false =>
        have HB : Hid (Tp.rend1 (tx, false) = Tp.esc tx) := by simp [Hid, Tp.rend1]
        rw [HB.out] at hEl2
        have ctx := HC.out wr ho.bel
        go_wp2_with fail
        refine (escape_any ⟨tx.toArray⟩ _ (by rw [HSX.out]; exact htk)).mono ?_
        rintro e W2 ⟨rfl, b2⟩
        have ho2 := ho.below b2
        generalize Tp.esc tx = ex at *
        have HEX : Hid ((⟨ex.toArray⟩ : ByteArray).size = ex.length) := by show ex.toArray.size = _; simp
        have HSE : Hid (Lib.strCells ⟨ex.toArray⟩ = Lib.byteCells ex) := by show _ = _; rw [Lib.strCells_eq]
        clear ho b2 hsz
        go_wp2_with (at_builtin; refine Lib.wpList_append_own_string _ rfl (.tmp 29) (.tmp 34) 40 9 rfl w.heap.size 5 i0 Tryf.underlying40 Tryf.underlying9 hi hz0 hz1 hz2 _ E.length (Lib.byteCells E) rfl ho2.row ⟨ex.toArray⟩ rfl (by rw [HEX.out]; unfold maxLen; omega) (by rw [HEX.out]; omega) ho2.bel.size ?_; intro v4 w4 hown4 hgrow4 _)
        go_roundw
        case rel =>
          refine ⟨k + 1, hlt, by go_num, ?_⟩
          rw [HN.out, HB.out]
          exact Own.push0 (n := E.length + (⟨ex.toArray⟩ : ByteArray).size) ho2 (by rw [HEX.out]) (by rw [← HSE.out]; exact hown4) hgrow4
        case measure => simp [intOf]; omega
    · have hcv := ho.conv
      have hb := ho.bel
      have HE : Hid (Tp.rend (T.take k) = Tp.rend T) := by rw [List.take_of_length_le (by omega)]; exact rfl
      rw [HE.out] at hcv
      clear ho
      go_wp2
      go_ret
      exact ⟨rfl, hb⟩
end Go.Proofs.Qxb6608706aFmt
