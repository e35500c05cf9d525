/-
  THE WALK of the second law: FnScanOfJoinedTemplatesJoinsTheirPieces.
-/
import Derived.Test.Qxb6608706aFmtLaw1
import Derived.Test.Qxb6608706aFmtEq
import Derived.Test.Qxb6608706aFmtJoin
namespace Go.Proofs.Qxb6608706aFmt
open Go.RowKit Go.Extern.Stop Go.Stop Go.Extern

theorem zzBytes11_any (a b : ByteArray) (w : World) (ha : a.size ≤ 524288) (hb : b.size ≤ 524288) :
    Calls Tryf.prog 11 #[.string a, .string b] w fun e w' => e = .returned (.bool true) ∧ w' = w := by
  go_enter Tryf.func11, Tryf.ntmps11
  go_wp2
  go_ret
  exact ⟨rfl, rfl⟩

/-- The rest: true at once. -/
theorem zzBytes11_some (a b : ByteArray) (w : World) (wa : a.size ≤ maxLen) (wb : b.size ≤ maxLen) :
    Calls Tryf.prog 11 #[.string a, .string b] w fun e w' => (∃ r, e = .returned (.bool r)) ∧ w' = w := by
  unfold maxLen at wa wb
  by_cases h1 : a.size ≤ 1048576
  · by_cases h2 : b.size ≤ 1048576
    · by_cases h3 : a.size + b.size ≤ 1048576
      all_goals
        go_enter Tryf.func11, Tryf.ntmps11
        go_wp2
        go_ret
        exact ⟨⟨_, rfl⟩, rfl⟩
    · go_enter Tryf.func11, Tryf.ntmps11
      go_wp2
      go_ret
      exact ⟨⟨_, rfl⟩, rfl⟩
  · go_enter Tryf.func11, Tryf.ntmps11
    go_wp2
    go_ret
    exact ⟨⟨_, rfl⟩, rfl⟩

def txts (T : List Tp.Tok) : List Value := T.map fun t => .string ⟨t.1.toArray⟩
def mrks (T : List Tp.Tok) : List Value := T.map fun t => .bool t.2
theorem txts_one (T : List Tp.Tok) : ∀ u ∈ txts T, u.oneCell' = true := by
  intro u hu; simp only [txts, List.mem_map] at hu; obtain ⟨b, _, rfl⟩ := hu; rfl
theorem mrks_one (T : List Tp.Tok) : ∀ u ∈ mrks T, u.oneCell' = true := by
  intro u hu; simp only [mrks, List.mem_map] at hu; obtain ⟨b, _, rfl⟩ := hu; rfl

/-- What the call gathers: texts and marks, in two rows of its own (or nil). -/
structure WW (W : World) (vs vb : Value) (T1 T2 : List Tp.Tok) (wr : World) : Prop where
  s : wr.ownsRow W.heap.size 9 1 vs T1.length (txts T1)
  b : wr.ownsRow W.heap.size 4 1 vb T2.length (mrks T2)
  bel : Below W.heap.size W wr

theorem row_ne {w : World} {base : Nat} {e1 e2 : TypeId} {v1 v2 : Value} {n1 n2 : Nat} {x1 x2 : List Value} (h1 : w.ownsRow base e1 1 v1 n1 x1) (h2 : w.ownsRow base e2 1 v2 n2 x2) (he : e1 ≠ e2) :
    v2.ownBlock = none ∨ v2.ownBlock ≠ v1.ownBlock := by
  rcases h2.2 with ⟨rfl, _⟩ | ⟨g2, c2, cur2, rfl, _, hg2, _⟩
  · exact .inl rfl
  · right
    rcases h1.2 with ⟨rfl, _⟩ | ⟨g1, c1, cur1, rfl, _, hg1, _⟩
    · simp [Value.ownBlock]
    · simp only [Value.ownBlock, ne_eq, Option.some.injEq]
      intro e; subst e; rw [hg2] at hg1; cases hg1; exact he rfl

theorem WW.pushS {W : World} {vs vb v2 : Value} {T1 T2 : List Tp.Tok} {wr w2 : World} {o : Obj} {t : Tp.Tok} (h : WW W vs vb T1 T2 wr)
    (hown : w2.ownsRow W.heap.size 9 1 v2 (T1.length + 1) (txts T1 ++ txts [t])) (hg : (wr.alloc o).grownBy w2 vs.ownBlock) : WW W v2 vb (T1 ++ [t]) T2 w2 := by
  refine ⟨?_, ?_, ?_⟩
  · have e1 : (T1 ++ [t]).length = T1.length + 1 := by simp
    have e2 : txts (T1 ++ [t]) = txts T1 ++ txts [t] := by simp [txts]
    rw [e1, e2]; exact hown
  · exact (h.b.alloc o).kept hg (row_ne h.s h.b (by decide))
  · exact (h.bel.alloc h.bel.size _).grown hg (by have := h.bel.size; simp; omega) (fun b hb => (h.s.lt b hb).1)
theorem WW.pushB {W : World} {vs vb v2 : Value} {T1 T2 : List Tp.Tok} {wr w2 : World} {o : Obj} {t : Tp.Tok} (h : WW W vs vb T1 T2 wr)
    (hown : w2.ownsRow W.heap.size 4 1 v2 (T2.length + 1) (mrks T2 ++ mrks [t])) (hg : (wr.alloc o).grownBy w2 vb.ownBlock) : WW W vs v2 T1 (T2 ++ [t]) w2 := by
  refine ⟨?_, ?_, ?_⟩
  · exact (h.s.alloc o).kept hg (row_ne h.b h.s (by decide))
  · have e1 : (T2 ++ [t]).length = T2.length + 1 := by simp
    have e2 : mrks (T2 ++ [t]) = mrks T2 ++ mrks [t] := by simp [mrks]
    rw [e1, e2]; exact hown
  · exact (h.bel.alloc h.bel.size _).grown hg (by have := h.bel.size; simp; omega) (fun b hb => (h.b.lt b hb).1)

theorem WW.strs {W : World} {vs vb : Value} {T1 T2 : List Tp.Tok} {wr : World} (h : WW W vs vb T1 T2 wr) : StrsV vs T1 wr := by
  rcases h.s.2 with ⟨rfl, hn⟩ | ⟨g, c, cur, rfl, hb, hg, rest⟩
  · exact .inl ⟨rfl, List.length_eq_zero_iff.1 hn⟩
  · refine .inr ⟨g, c, rfl, (h.s.lt g rfl).2, fun j hj => ?_⟩
    rw [h.s.cellAt j (by omega)]; simp [txts, hj]
theorem WW.bools {W : World} {vs vb : Value} {T1 T2 : List Tp.Tok} {wr : World} (h : WW W vs vb T1 T2 wr) : BoolsV vb T2 wr := by
  rcases h.b.2 with ⟨rfl, hn⟩ | ⟨g, c, cur, rfl, hb, hg, rest⟩
  · exact .inl ⟨rfl, List.length_eq_zero_iff.1 hn⟩
  · refine .inr ⟨g, c, rfl, (h.b.lt g rfl).2, fun j hj => ?_⟩
    rw [h.b.cellAt j (by omega)]; simp [mrks, hj]

theorem WW.drewN {W : World} {vs vb : Value} {T1 T2 : List Tp.Tok} {wr : World} (h : WW W vs vb T1 T2 wr) (n : Nat) : WW W vs vb T1 T2 (wr.drewN n) := ⟨h.s, h.b, below_drewN h.bel n⟩

theorem mk_append (x y : List UInt8) : (⟨x.toArray⟩ : ByteArray) ++ ⟨y.toArray⟩ = ⟨(x ++ y).toArray⟩ := by
  apply ByteArray.ext; simp

/-- The seam's literal is stored. -/
theorem WW.seam {W : World} {g c : Nat} {vb : Value} {A : List Tp.Tok} {t : Tp.Tok} {wr : World} (hA : 0 < A.length) (h : WW W (.slice (some ⟨g, 0, none⟩) A.length c) vb A A wr) (hl : Tp.last true A = false) :
    WW W (.slice (some ⟨g, 0, none⟩) A.length c) vb (A.dropLast ++ [((A.getLast?.getD ([], false)).1 ++ t.1, false)]) (A.dropLast ++ [((A.getLast?.getD ([], false)).1 ++ t.1, false)])
      (wr.setCell ⟨g, A.length - 1, none⟩ (.string ⟨((A[A.length - 1]'(by omega)).1 ++ t.1).toArray⟩)) := by
  have hst := h.s.stored (A.length - 1) (.string ⟨((A[A.length - 1]'(by omega)).1 ++ t.1).toArray⟩)
  have hgl : A.getLast?.getD ([], false) = A[A.length - 1]'(by omega) := by
    rw [List.getLast?_eq_getElem?, List.getElem?_eq_getElem (by omega)]; rfl
  have hlen : (A.dropLast ++ [((A.getLast?.getD ([], false)).1 ++ t.1, false)]).length = A.length := by simp; omega
  have hlast : (A[A.length - 1]'(by omega)).2 = false := by rw [← Tp.last_at true A hA]; exact hl
  have hsplit : A = A.dropLast ++ [A[A.length - 1]'(by omega)] := by
    have hne : A ≠ [] := by intro e; rw [e] at hA; simp at hA
    have := List.dropLast_concat_getLast hne
    rw [List.getLast_eq_getElem] at this
    exact this.symm
  refine ⟨?_, ?_, ?_⟩
  · rw [hlen]
    have e : txts (A.dropLast ++ [((A.getLast?.getD ([], false)).1 ++ t.1, false)]) = (txts A).set (A.length - 1) (.string ⟨((A[A.length - 1]'(by omega)).1 ++ t.1).toArray⟩) := by
      have e2 : txts A = txts A.dropLast ++ [.string ⟨((A[A.length - 1]'(by omega)).1).toArray⟩] := by
        conv => lhs; rw [hsplit]
        simp [txts]
      rw [e2, List.set_append_right _ _ (by simp [txts])]
      simp [txts, hgl]
    rw [e]; exact hst.1
  · rw [hlen]
    have e : mrks (A.dropLast ++ [((A.getLast?.getD ([], false)).1 ++ t.1, false)]) = mrks A := by
      conv => rhs; rw [hsplit]
      simp [mrks, hlast]
    rw [e]
    exact h.b.kept hst.2 (row_ne h.s h.b (by decide))
  · exact h.bel.setCell (p := ⟨g, A.length - 1, none⟩) (h.s.lt g rfl).1 _

theorem BoolsV.below {v : Value} {T : List Tp.Tok} {w w' : World} (h : BoolsV v T w) (hb : Below w.heap.size w w') : BoolsV v T w' := by
  rcases h with h | ⟨g, c, h1, h2⟩
  · exact .inl h
  · exact .inr ⟨g, c, h1, h2.below hb⟩

theorem join_len (A X : List Tp.Tok) : (Tp.join A X).length ≤ A.length + X.length := by
  cases X with
  | nil => simp [Tp.join]
  | cons t X =>
    simp only [Tp.join]
    split
    · simp only [List.length_append, List.length_dropLast, List.length_cons]; omega
    · simp

set_option maxHeartbeats 1000000 in
set_option maxRecDepth 100000 in
theorem law2_head (F : Interp) (a b : ByteArray) (w : World) (hF : F.answers w.tape) (ha : a.size ≤ 524288) (hb : b.size ≤ 524288) :
    Calls Tryf.prog 4 #[.string a, .string b] w fun e w' => e = .returned (.bool true) ∧ Below w.heap.size w w' := by
  cases hRa : Tp.run a.data.toList none [] [] with
  | none =>
    have HA : Hid (Tp.run a.data.toList none [] [] = none) := hRa
    clear hRa
    go_enter Tryf.func4, Tryf.ntmps4
    go_wp2_with fail
    refine (zzBytes11_any a b _ ha hb).mono ?_
    rintro e w1 ⟨rfl, rfl⟩
    go_wp2_with fail
    refine (wellFormed_any a _ (by omega)).mono ?_
    rintro e w2 ⟨rfl, rfl⟩
    rw [HA.out]
    go_wp2
    go_ret
    exact ⟨rfl, Below.refl _ _⟩
  | some qa =>
    have HA : Hid (Tp.run a.data.toList none [] [] = some qa) := hRa
    clear hRa
    cases hRb : Tp.run b.data.toList none [] [] with
    | none =>
      have HB : Hid (Tp.run b.data.toList none [] [] = none) := hRb
      clear hRb
      go_enter Tryf.func4, Tryf.ntmps4
      go_wp2_with fail
      refine (zzBytes11_any a b _ ha hb).mono ?_
      rintro e w1 ⟨rfl, rfl⟩
      go_wp2_with fail
      refine (wellFormed_any a _ (by omega)).mono ?_
      rintro e w2 ⟨rfl, rfl⟩
      rw [HA.out]
      go_wp2_with fail
      refine (wellFormed_any b _ (by omega)).mono ?_
      rintro e w2 ⟨rfl, rfl⟩
      rw [HB.out]
      go_wp2
      go_ret
      exact ⟨rfl, Below.refl _ _⟩
    | some qb =>
      have HB : Hid (Tp.run b.data.toList none [] [] = some qb) := hRb
      clear hRb
      obtain ⟨q, hq, hj⟩ := Tp.scan_join HA.out HB.out
      have HJ : Hid (Tp.run (a ++ b).data.toList none [] [] = some q) := by
        have : (a ++ b).data.toList = a.data.toList ++ b.data.toList := by simp
        show _ = _
        rw [this]; exact hq
      have HQ : Hid (Tp.flush q.1 q.2 = Tp.join (Tp.flush qa.1 qa.2) (Tp.flush qb.1 qb.2)) := hj
      clear hq hj
      go_enter Tryf.func4, Tryf.ntmps4
      go_wp2_with fail
      refine (zzBytes11_any a b _ ha hb).mono ?_
      rintro e w0 ⟨rfl, rfl⟩
      go_wp2_with fail
      refine (wellFormed_any a _ (by omega)).mono ?_
      rintro e w0 ⟨rfl, rfl⟩
      rw [HA.out]
      go_wp2_with fail
      refine (wellFormed_any b _ (by omega)).mono ?_
      rintro e w0 ⟨rfl, rfl⟩
      rw [HB.out]
      go_wp2_with fail
      refine (zzscan_any F a _ hF (by omega)).mono ?_
      rintro e w2 hp
      rw [HA.out] at hp
      obtain ⟨hb2, va, rfl, hoa⟩ := hp
      have HOA : Hid (w2.ownsRow w0.heap.size 38 2 va (Tp.flush qa.1 qa.2).length (tokCells (Tp.flush qa.1 qa.2))) := hoa
      clear hoa
      go_wp2_with fail
      refine (zzscan_any F b _ (by rw [hb2.tape]; exact hF) (by omega)).mono ?_
      rintro e w3 hp
      rw [HB.out] at hp
      obtain ⟨hb3, vb, rfl, hob⟩ := hp
      have HOB : Hid (w3.ownsRow w2.heap.size 38 2 vb (Tp.flush qb.1 qb.2).length (tokCells (Tp.flush qb.1 qb.2))) := hob
      clear hob
      go_wp2_with fail
      have hab : (a ++ b).size ≤ 16777216 := by rw [ByteArray.size_append]; omega
      refine (zzscan_any F (a ++ b) _ (by rw [hb3.tape, hb2.tape]; exact hF) hab).mono ?_
      rintro e w4 hp
      rw [HJ.out] at hp
      obtain ⟨hb4, vj, rfl, hoj⟩ := hp
      have hrn : Tp.rend (Tp.flush q.1 q.2) = (a ++ b).data.toList := Tp.rend_scan HJ.out
      have hge := rend_ge _ _ (Tp.ok_scan HJ.out).1
      rw [hrn, len_eq] at hge
      have hgea := rend_ge _ _ (Tp.ok_scan HA.out).1
      rw [Tp.rend_scan HA.out, len_eq] at hgea
      have hgeb := rend_ge _ _ (Tp.ok_scan HB.out).1
      rw [Tp.rend_scan HB.out, len_eq] at hgeb
      simp only [HQ.out] at hoj hrn hge
      have hla := hgea.1
      have hlb := hgeb.1
      have hlj := hge.1
      have HGJ : Hid (∀ t ∈ Tp.join (Tp.flush qa.1 qa.2) (Tp.flush qb.1 qb.2), t.1.length ≤ (a ++ b).size) := hge.2
      have HGA : Hid (∀ t ∈ Tp.flush qa.1 qa.2, t.1.length ≤ a.size) := hgea.2
      have HGB : Hid (∀ t ∈ Tp.flush qb.1 qb.2, t.1.length ≤ b.size) := hgeb.2
      have HRN : Hid (Tp.rend (Tp.join (Tp.flush qa.1 qa.2) (Tp.flush qb.1 qb.2)) = (a ++ b).data.toList) := hrn
      clear hge hgea hgeb hrn HJ HQ HA HB
      generalize Tp.flush qa.1 qa.2 = A at *
      generalize Tp.flush qb.1 qb.2 = B at *
      have b3 := hb2.trans (hb3.mono hb2.size)
      have b4 := b3.trans (hb4.mono b3.size)
      have HOJ : Hid (w4.ownsRow w3.heap.size 38 2 vj (Tp.join A B).length (tokCells (Tp.join A B))) := hoj
      have HOA4 : Hid (w4.ownsRow w0.heap.size 38 2 va A.length (tokCells A)) := row_block (row_block HOA.out (fun g hg => hb3.block g (HOA.out.lt g hg).2)) (fun g hg => hb4.block g (by have := (HOA.out.lt g hg).2; have := hb3.size; omega))
      have HOB4 : Hid (w4.ownsRow w2.heap.size 38 2 vb B.length (tokCells B)) := row_block HOB.out (fun g hg => hb4.block g (HOB.out.lt g hg).2)
      clear hoj HOA HOB hb2 hb3 hb4 b3
      go_wp2_with fail
      refine (pieces_any A va _ _ HOA4.out (by omega)).mono ?_
      rintro e w5 ⟨ga1, ga2, rfl, hSa, hBa, hb5⟩
      have b5 := b4.trans (hb5.mono b4.size)
      have HOB5 : Hid (w5.ownsRow w2.heap.size 38 2 vb B.length (tokCells B)) := row_block HOB4.out (fun g hg => hb5.block g (HOB4.out.lt g hg).2)
      have HOJ5 : Hid (w5.ownsRow w3.heap.size 38 2 vj (Tp.join A B).length (tokCells (Tp.join A B))) := row_block HOJ.out (fun g hg => hb5.block g (HOJ.out.lt g hg).2)
      clear HOJ HOA4 HOB4 hb5 b4
      have HSa : Hid (Strs ga1 A w5) := hSa
      have HBa : Hid (Bools ga2 A w5) := hBa
      clear hSa hBa
      go_wp2_with fail
      refine (pieces_any B vb _ _ HOB5.out (by omega)).mono ?_
      rintro e w6 ⟨gb1, gb2, rfl, hSb, hBb, hb6⟩
      have b6 := b5.trans (hb6.mono b5.size)
      have HOJ6 : Hid (w6.ownsRow w3.heap.size 38 2 vj (Tp.join A B).length (tokCells (Tp.join A B))) := row_block HOJ5.out (fun g hg => hb6.block g (HOJ5.out.lt g hg).2)
      have HSa6 : Hid (Strs ga1 A w6) := HSa.out.below hb6
      have HBa6 : Hid (Bools ga2 A w6) := HBa.out.below hb6
      have HSb : Hid (Strs gb1 B w6) := hSb
      have HBb : Hid (Bools gb2 B w6) := hBb
      clear HOJ5 HOB5 HSa HBa hSb hBb hb6 b5
      go_wp2_with fail
      refine (pieces_any (Tp.join A B) vj _ _ HOJ6.out (by omega)).mono ?_
      rintro e w7 ⟨gj1, gj2, rfl, hSj, hBj, hb7⟩
      have b7 := b6.trans (hb7.mono b6.size)
      have HSa7 : Hid (Strs ga1 A w7) := HSa6.out.below hb7
      have HBa7 : Hid (Bools ga2 A w7) := HBa6.out.below hb7
      have HSb7 : Hid (Strs gb1 B w7) := HSb.out.below hb7
      have HBb7 : Hid (Bools gb2 B w7) := HBb.out.below hb7
      have HSj : Hid (Strs gj1 (Tp.join A B) w7) := hSj
      have HBj : Hid (Bools gj2 (Tp.join A B) w7) := hBj
      clear HOJ6 HSa6 HBa6 HSb HBb hSj hBj hb7 b6
      obtain ⟨i9, a9, a90, a91, a92⟩ := info_parts Tryf.info9
      obtain ⟨i4, a4, a40, a41, a42⟩ := info_parts Tryf.info4
      go_wp2_with fail
      go_loopw [17, 18, 19] (fun vs vm i wr => ∃ k : Nat, k ≤ A.length ∧ i = .int .i64 k ∧ WW w7 vs vm (A.take k) (A.take k) wr) (fun _ _ i _ => A.length - (intOf i).toNat)
      case atStart => exact ⟨0, Nat.zero_le _, rfl, ⟨World.ownsRow_nil _ _ _ _, World.ownsRow_nil _ _ _ _, Below.refl _ _⟩⟩
      case round =>
        obtain ⟨k, hk, rfl, hw⟩ := hrel
        have hsz := hw.bel.size
        by_cases hlt : k < A.length
        · have hTl : (A.take k).length ≤ 524288 := by have := List.length_take_le k A; omega
          have hsn : A.take (k + 1) = A.take k ++ [A[k]] := List.take_succ_eq_append_getElem hlt
          have HSN : Hid (A.take (k + 1) = A.take k ++ [A[k]]) := hsn
          clear hsn
          generalize A.take k = T at *
          have cS := (HSa7.out.below hw.bel).cell k hlt
          have HCB : Hid (∀ W, Below w7.heap.size w7 W → W.cell? ⟨ga2, k, none⟩ = some (.bool (A[k].2))) := fun W hW => (HBa7.out.below hW).cell k hlt
          generalize A[k] = t at *
          go_wp2_with (first
            | (at_builtin; refine wpList_append_lies _ rfl (.tmp 89) (.tmp 94) _ rfl w7.heap.size 9 i9 _ 1 16 Tryf.underlying28 a9 a90 a91 a92 rfl (by omega) _ T.length (txts T) rfl (hw.s.alloc _) ⟨wr.heap.size, 0, none⟩ 1 1 (txts [t]) rfl rfl (World.news_of_block (cs := #[.string ⟨t.1.toArray⟩]) (t := 9) (fr := (0, 0)) (heap_alloc_new wr _)) (txts_one _) (by omega) (by unfold maxLen; omega) (by omega) (by simp; omega) (wr.heap.size + 1) (by simp) ?_; intro g8 c8 w8 hown8 hgrow8 hat8 hlt8; have hw8 := hw.pushS hown8 hgrow8; have cB := HCB.out w8 hw8.bel; have hsz8 := hw8.bel.size)
            | (at_builtin; refine wpList_append_lies _ rfl (.tmp 96) (.tmp 101) _ rfl w7.heap.size 4 i4 _ 1 1 Tryf.underlying29 a4 a40 a41 a42 rfl (by omega) _ T.length (mrks T) rfl (hw8.b.alloc _) ⟨w8.heap.size, 0, none⟩ 1 1 (mrks [t]) rfl rfl (World.news_of_block (cs := #[.bool t.2]) (t := 4) (fr := (0, 0)) (heap_alloc_new w8 _)) (mrks_one _) (by omega) (by unfold maxLen; omega) (by omega) (by simp; omega) (w8.heap.size + 1) (by simp) ?_; intro g9 c9 w9 hown9 hgrow9 hat9 hlt9))
          go_roundw
          case rel => exact ⟨k + 1, hlt, by go_num, by rw [HSN.out]; exact hw8.pushB hown9 hgrow9⟩
          case measure => simp [intOf]; omega
        · have HTA : Hid (A.take k = A) := List.take_of_length_le (by omega)
          rw [HTA.out] at hw
          have HW : Hid (WW w7 u17 u18 A A wr) := hw
          clear hw
          obtain ⟨wo, rfl⟩ : ∃ wo : World, wo = wr := ⟨_, rfl⟩
          go_wp2_with fail
          go_loopw [17, 18, 20] (fun vs vm i wr => ∃ k : Nat, k ≤ B.length ∧ i = .int .i64 k ∧ WW w7 vs vm (Tp.join A (B.take k)) (Tp.join A (B.take k)) wr) (fun _ _ i _ => B.length - (intOf i).toNat)
          case atStart => exact ⟨0, Nat.zero_le _, rfl, by rw [Tp.join_none]; exact HW.out⟩
          case round =>
            obtain ⟨m, hm, rfl, hw⟩ := hrel
            clear HW HTA
            have hsz := hw.bel.size
            by_cases hlt2 : m < B.length
            · have HCS : Hid (∀ W, Below w7.heap.size w7 W → W.cell? ⟨gb1, m, none⟩ = some (.string ⟨(B[m].1).toArray⟩)) := fun W hW => (HSb7.out.below hW).cell m hlt2
              have HCB : Hid (∀ W, Below w7.heap.size w7 W → W.cell? ⟨gb2, m, none⟩ = some (.bool (B[m].2))) := fun W hW => (HBb7.out.below hW).cell m hlt2
              have cS := HCS.out _ hw.bel
              have cB := HCB.out _ hw.bel
              have hjl := join_len A (B.take m)
              have htl := List.length_take_le m B
              by_cases hc : m = 0 ∧ Tp.last true A = false ∧ B[m].2 = false
              · obtain ⟨rfl, hla2, hb0⟩ := hc
                rw [Tp.join_none] at hw hjl
                have hA0 : 0 < A.length := by
                  rcases Nat.eq_zero_or_pos A.length with h | h
                  · rw [List.length_eq_zero_iff.1 h] at hla2; cases hla2
                  · exact h
                rw [hb0] at cB
                rcases hw.strs with ⟨_, hT⟩ | ⟨g17, c17, hv17, hS⟩
                · rw [hT] at hA0; simp at hA0
                rcases hw.bools with ⟨_, hT⟩ | ⟨g18, c18, hv18, hB⟩
                · rw [hT] at hA0; simp at hA0
                subst hv17 hv18
                have e1 := hS.cell (A.length - 1) (by omega)
                have e2 := hB.cell (A.length - 1) (by omega)
                rw [← Tp.last_at true A hA0, hla2] at e2
                have hfz := hw.s.frozenAt (A.length - 1)
                have HW : Hid (WW w7 (.slice (some ⟨g17, 0, none⟩) A.length c17) (.slice (some ⟨g18, 0, none⟩) A.length c18) A A wr) := hw
                have hx := HGA.out (A[A.length - 1]'(by omega)) (List.getElem_mem _)
                have hy := HGB.out B[0] (List.getElem_mem _)
                have HJF : Hid (Tp.join A (B.take (0 + 1)) = A.dropLast ++ [((A.getLast?.getD ([], false)).1 ++ B[0].1, false)]) := by
                  have := Tp.join_first A B hlt2
                  rw [if_pos ⟨hb0, hla2⟩] at this; exact this
                have HSM : Hid (∀ n, WW w7 (.slice (some ⟨g17, 0, none⟩) A.length c17) (.slice (some ⟨g18, 0, none⟩) A.length c18) (A.dropLast ++ [((A.getLast?.getD ([], false)).1 ++ B[0].1, false)]) (A.dropLast ++ [((A.getLast?.getD ([], false)).1 ++ B[0].1, false)])
                    ((wr.drewN n).setCell ⟨g17, A.length - 1, none⟩ (.string (⟨(A[A.length - 1]'(by omega)).1.toArray⟩ ++ ⟨B[0].1.toArray⟩)))) := by
                  intro n
                  have h := (hw.drewN n).seam (t := B[0]) hA0 hla2
                  rw [← mk_append] at h
                  exact h
                clear hw hS hB hla2 hb0 HCS HCB HW
                generalize (A[A.length - 1]'(by omega)).1 = tx at *
                generalize B[0].1 = ty at *
                have hk0 : (0 : Int) ≤ (A.length : Int) - 1 := by omega
                have hk1 : (A.length : Int) - 1 < (A.length : Int) := by omega
                have hk2 : ((A.length : Int) - 1).toNat = A.length - 1 := by omega
                have hk3 : (0 : Int) < (B.length : Int) := by omega
                have hk4 : IntKind.i64.wrap ((A.length : Int) - 1) = (A.length : Int) - 1 := by rw [IntKind.wrap_i64]; omega
                have hsx : (⟨tx.toArray⟩ : ByteArray).size ≤ 524288 := by show tx.toArray.size ≤ _; simp; omega
                have hsy : (⟨ty.toArray⟩ : ByteArray).size ≤ 524288 := by show ty.toArray.size ≤ _; simp; omega
                have hadd : ∀ W, (binOp .add 9 (.string ⟨tx.toArray⟩) (.string ⟨ty.toArray⟩)).run Tryf.prog W = .ok (.string (⟨tx.toArray⟩ ++ ⟨ty.toArray⟩)) W := fun W => run_string_add_sum W _ _ (by omega)
                go_wp2_with fail
                go_quiet (fail)
                go_wp2
                go_roundw
                case rel => exact ⟨1, hlt2, by go_num, by rw [HJF.out]; exact HSM.out _⟩
                case measure => simp [intOf]; omega
              · have HJN : Hid (Tp.join A (B.take (m + 1)) = Tp.join A (B.take m) ++ [B[m]]) := by
                  by_cases hm0 : m = 0
                  · subst hm0
                    have := Tp.join_first A B hlt2
                    rw [if_neg (fun h => hc ⟨rfl, h.2, h.1⟩)] at this
                    show _ = _
                    rw [Tp.join_none]; exact this
                  · exact Tp.join_later A B m hlt2 (by omega)
                have hcase : (0 < m) ∨ (m = 0 ∧ A = []) ∨ (m = 0 ∧ 0 < A.length ∧ Tp.last true A = true) ∨ (m = 0 ∧ 0 < A.length ∧ Tp.last true A = false ∧ B[m].2 = true) := by
                  by_cases hm0 : m = 0
                  · right
                    rcases Nat.eq_zero_or_pos A.length with h | h
                    · left; exact ⟨hm0, List.length_eq_zero_iff.1 h⟩
                    · right
                      cases hL : Tp.last true A with
                      | true => left; exact ⟨hm0, h, rfl⟩
                      | false =>
                        right
                        cases hB : B[m].2 with
                        | true => exact ⟨hm0, h, rfl, rfl⟩
                        | false => exact absurd ⟨hm0, hL, hB⟩ hc
                  · left; omega
                clear hc
                have hT0 : m = 0 → Tp.join A (B.take m) = A := fun h => by rw [h, Tp.join_none]
                have hcase2 : (0 < m) ∨ (m = 0 ∧ Tp.join A (B.take m) = []) ∨ (m = 0 ∧ 0 < (Tp.join A (B.take m)).length ∧ Tp.last true (Tp.join A (B.take m)) = true) ∨ (m = 0 ∧ 0 < (Tp.join A (B.take m)).length ∧ Tp.last true (Tp.join A (B.take m)) = false ∧ B[m].2 = true) := by
                  rcases hcase with h | ⟨h, h2⟩ | ⟨h, h2, h3⟩ | ⟨h, h2, h3, h4⟩
                  · exact .inl h
                  · right; left; exact ⟨h, by rw [hT0 h]; exact h2⟩
                  · right; right; left; exact ⟨h, by rw [hT0 h]; exact h2, by rw [hT0 h]; exact h3⟩
                  · right; right; right; exact ⟨h, by rw [hT0 h]; exact h2, by rw [hT0 h]; exact h3, h4⟩
                clear hcase hT0
                generalize Tp.join A (B.take m) = T at *
                have hm0 : 0 < m → ((m : Int) == 0) = false := fun h => by rw [beq_eq_false_iff_ne]; omega
                have hfacts : (((m : Int) == 0) = false) ∨ (((m : Int) == 0) = true ∧ T = []) ∨ (((m : Int) == 0) = true ∧ 0 < T.length ∧ Tp.last true T = true) ∨ (((m : Int) == 0) = true ∧ 0 < T.length ∧ Tp.last true T = false ∧ B[m].2 = true ∧ m = 0) := by
                  rcases hcase2 with h | ⟨h, h2⟩ | ⟨h, h2, h3⟩ | ⟨h, h2, h3, h4⟩
                  · exact .inl (hm0 h)
                  · right; left; exact ⟨by rw [h]; rfl, h2⟩
                  · right; right; left; exact ⟨by rw [h]; rfl, h2, h3⟩
                  · right; right; right; exact ⟨by rw [h]; rfl, h2, h3, h4, h⟩
                clear hcase2 hm0
                have HLA : Hid (∀ h : 0 < T.length, Tp.last true T = (T[T.length - 1]'(by omega)).2) := fun h => Tp.last_at true T h
                have HW : Hid (WW w7 u17 u18 T T wr) := hw
                rcases hw.strs with ⟨hv17, hT17⟩ | ⟨g17, c17, hv17, hS⟩
                · subst hT17
                  subst hv17
                  clear hw HLA
                  have hff : ((m : Int) == 0) = false ∨ ((m : Int) == 0) = true := by cases ((m : Int) == 0) <;> simp
                  clear hfacts
                  generalize B[m] = t at *
                  rcases hff with hf | hf
                  all_goals
                    go_wp2_with (first
                      | (at_builtin; refine wpList_append_lies _ rfl (.tmp 145) (.tmp 150) _ rfl w7.heap.size 9 i9 _ 1 16 Tryf.underlying28 a9 a90 a91 a92 rfl (by omega) _ 0 (txts []) rfl (HW.out.s.alloc _) ⟨wr.heap.size, 0, none⟩ 1 1 (txts [t]) rfl rfl (World.news_of_block (cs := #[.string ⟨t.1.toArray⟩]) (t := 9) (fr := (0, 0)) (heap_alloc_new wr _)) (txts_one _) (by omega) (by unfold maxLen; omega) (by omega) (by simp; omega) (wr.heap.size + 1) (by simp) ?_; intro g8 c8 w8 hown8 hgrow8 hat8 hlt8; have hw8 := HW.out.pushS hown8 hgrow8; have cB8 := HCB.out w8 hw8.bel; have hsz8 := hw8.bel.size)
                      | (at_builtin; refine wpList_append_lies _ rfl (.tmp 152) (.tmp 157) _ rfl w7.heap.size 4 i4 _ 1 1 Tryf.underlying29 a4 a40 a41 a42 rfl (by omega) _ 0 (mrks []) rfl (hw8.b.alloc _) ⟨w8.heap.size, 0, none⟩ 1 1 (mrks [t]) rfl rfl (World.news_of_block (cs := #[.bool t.2]) (t := 4) (fr := (0, 0)) (heap_alloc_new w8 _)) (mrks_one _) (by omega) (by unfold maxLen; omega) (by omega) (by simp; omega) (w8.heap.size + 1) (by simp) ?_; intro g9 c9 w9 hown9 hgrow9 hat9 hlt9))
                    go_roundw
                    case rel => exact ⟨m + 1, hlt2, by go_num, by rw [HJN.out]; exact hw8.pushB hown9 hgrow9⟩
                    case measure => simp [intOf]; omega
                · subst hv17
                  have h18 : 0 < T.length → ∃ g18 c18, u18 = .slice (some ⟨g18, 0, none⟩) T.length c18 ∧ Bools g18 T wr := fun h => by
                    rcases hw.bools with ⟨_, hT⟩ | ⟨g18, c18, hv18, hB⟩
                    · rw [hT] at h; simp at h
                    · exact ⟨g18, c18, hv18, hB⟩
                  clear hw hS
                  rcases hfacts with hf | ⟨hf, hTe⟩ | ⟨hf, hT0, hL⟩ | ⟨hf, hT0, hL, hb0, hm0⟩
                  focus
                    clear h18 HLA
                    generalize B[m] = t at *
                  rotate_left
                  focus
                    have hT0 : T.length ≤ 0 := by rw [hTe]; simp
                    clear hTe
                    clear h18 HLA
                    generalize B[m] = t at *
                  rotate_left
                  focus
                    obtain ⟨g18, c18, hv18, hB⟩ := h18 hT0
                    subst hv18
                    have e2 := hB.cell (T.length - 1) (by omega)
                    rw [← HLA.out hT0, hL] at e2
                    clear h18 HLA hL hB
                    generalize B[m] = t at *
                  rotate_left
                  focus
                    obtain ⟨g18, c18, hv18, hB⟩ := h18 hT0
                    subst hv18
                    have e2 := hB.cell (T.length - 1) (by omega)
                    rw [← HLA.out hT0, hL] at e2
                    rw [hb0] at cB
                    clear h18 HLA hL hB hb0
                    generalize B[m] = t at *
                    subst hm0
                  rotate_left
                  all_goals
                    go_wp2_with (first
                      | (at_builtin; refine wpList_append_lies _ rfl (.tmp 145) (.tmp 150) _ rfl w7.heap.size 9 i9 _ 1 16 Tryf.underlying28 a9 a90 a91 a92 rfl (by omega) _ T.length (txts T) rfl (HW.out.s.alloc _) ⟨wr.heap.size, 0, none⟩ 1 1 (txts [t]) rfl rfl (World.news_of_block (cs := #[.string ⟨t.1.toArray⟩]) (t := 9) (fr := (0, 0)) (heap_alloc_new wr _)) (txts_one _) (by omega) (by unfold maxLen; omega) (by omega) (by simp; omega) (wr.heap.size + 1) (by simp) ?_; intro g8 c8 w8 hown8 hgrow8 hat8 hlt8; have hw8 := HW.out.pushS hown8 hgrow8; have cB8 := HCB.out w8 hw8.bel; have hsz8 := hw8.bel.size)
                      | (at_builtin; refine wpList_append_lies _ rfl (.tmp 152) (.tmp 157) _ rfl w7.heap.size 4 i4 _ 1 1 Tryf.underlying29 a4 a40 a41 a42 rfl (by omega) _ T.length (mrks T) rfl (hw8.b.alloc _) ⟨w8.heap.size, 0, none⟩ 1 1 (mrks [t]) rfl rfl (World.news_of_block (cs := #[.bool t.2]) (t := 4) (fr := (0, 0)) (heap_alloc_new w8 _)) (mrks_one _) (by omega) (by unfold maxLen; omega) (by omega) (by simp; omega) (w8.heap.size + 1) (by simp) ?_; intro g9 c9 w9 hown9 hgrow9 hat9 hlt9))
                    go_roundw
                    case rel => exact ⟨_ + 1, hlt2, by go_num, by rw [HJN.out]; exact hw8.pushB hown9 hgrow9⟩
                    case measure => simp [intOf]; omega
            · have HTB : Hid (Tp.join A (B.take m) = Tp.join A B) := by rw [show B.take m = B from List.take_of_length_le (by omega)]; rfl
              rw [HTB.out] at hw
              have HW : Hid (WW w7 u17 u18 (Tp.join A B) (Tp.join A B) wr) := hw
              clear hw HTB
              have HLJ : Hid ((Tp.join A B).length ≤ (a ++ b).size) := hlj
              go_wp2_with fail
              refine (eqStrs_any (Tp.join A B) gj1 _ u17 _ (HSj.out.below HW.out.bel) HW.out.strs (by omega)).mono ?_
              rintro e w8 ⟨rfl, hb8⟩
              have HB8 : Hid (Below wr.heap.size wr w8) := hb8
              have b8 := HW.out.bel.trans (hb8.mono hsz)
              clear hb8
              go_wp2_with fail
              refine (eqBools_any (Tp.join A B) gj2 _ u18 _ (HBj.out.below b8) (HW.out.bools.below HB8.out) (by omega)).mono ?_
              rintro e w9 ⟨rfl, hb9⟩
              have b9 := b8.trans (hb9.mono b8.size)
              clear hb9
              go_wp2_with fail
              refine (render_any (Tp.join A B) gj1 _ gj2 _ _ (HSj.out.below b9) (HBj.out.below b9) (by omega) (by rw [HRN.out, len_eq]; omega) (fun t ht => by have := HGJ.out t ht; omega)).mono ?_
              rintro e w10 ⟨rfl, hb10⟩
              rw [HRN.out, mk_toList]
              have b10 := b9.trans (hb10.mono b9.size)
              go_wp2
              go_ret
              exact ⟨by simp, b7.trans (b10.mono b7.size)⟩

set_option maxHeartbeats 1000000 in
set_option maxRecDepth 100000 in
theorem law2 (F : Interp) (a b : ByteArray) (w : World) (hF : F.answers w.tape) (wa : a.size ≤ maxLen) (wb : b.size ≤ maxLen) :
    Calls Tryf.prog 4 #[.string a, .string b] w fun e w' => e = .returned (.bool true) ∧ Below w.heap.size w w' := by
  by_cases ha : a.size ≤ 524288
  · by_cases hb : b.size ≤ 524288
    · exact law2_head F a b w hF ha hb
    · go_enter Tryf.func4, Tryf.ntmps4
      go_wp2_with fail
      refine (zzBytes11_some a b _ wa wb).mono ?_
      rintro e w1 ⟨⟨r, rfl⟩, rfl⟩
      cases r
      all_goals
        go_wp2
        go_ret
        exact ⟨rfl, Below.refl _ _⟩
  · go_enter Tryf.func4, Tryf.ntmps4
    go_wp2_with fail
    refine (zzBytes11_some a b _ wa wb).mono ?_
    rintro e w1 ⟨⟨r, rfl⟩, rfl⟩
    cases r
    all_goals
      go_wp2
      go_ret
      exact ⟨rfl, Below.refl _ _⟩
end Go.Proofs.Qxb6608706aFmt
