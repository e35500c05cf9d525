/-
  THE WALK of scan: it computes 'Tp.run'.
-/
import Derived.Test.Qxb6608706aFmtSteps
namespace Go.Proofs.Qxb6608706aFmt
open Go.RowKit Go.Extern.Stop Go.Stop Go.Extern

/-- What scan hands back. -/
def ScanPost (R : Option (List UInt8 × List Tp.Tok)) (w : World) (e : Ending) (w' : World) : Prop :=
  Below w.heap.size w w' ∧
  match R with
  | none => ∃ a, e = .returned (.tuple #[.slice none 0 0, .iface 68 (.pointer (some a))])
  | some q => ∃ v, e = .returned (.tuple #[v, .nilIface]) ∧ w'.ownsRow w.heap.size 38 2 v (Tp.flush q.1 q.2).length (tokCells (Tp.flush q.1 q.2))

/-- The relation at the loop's head. -/
def ScanRel (s : ByteArray) (w : World) (R : Option (List UInt8 × List Tp.Tok)) (i : Value) (wr : World) : Prop :=
  ∃ (k : Nat) (lit : List UInt8) (T : List Tp.Tok), k ≤ s.size ∧ i = .int .i64 k ∧ lit.length ≤ k ∧ T.length ≤ k ∧ Tp.run (s.data.toList.drop k) none lit T = R ∧ Mem w.heap.size lit T wr ∧ Below w.heap.size w wr

theorem post_err {R : Option (List UInt8 × List Tp.Tok)} {w w' : World} {a : Addr} (hR : R = none) (hb : Below w.heap.size w w') :
    ScanPost R w (.returned (.tuple #[.slice none 0 0, .iface 68 (.pointer (some a))])) w' := by
  subst hR; exact ⟨hb, a, rfl⟩

theorem post_ok {R : Option (List UInt8 × List Tp.Tok)} {w w' : World} {v : Value} {lit : List UInt8} {T : List Tp.Tok} (hR : R = some (lit, T)) (hb : Below w.heap.size w w')
    (hown : w'.ownsRow (w.heap.size + 2) 38 2 v (Tp.flush lit T).length (tokCells (Tp.flush lit T))) : ScanPost R w (.returned (.tuple #[v, .nilIface])) w' := by
  subst hR
  refine ⟨hb, v, rfl, hown.1, ?_⟩
  rcases hown.2 with hn | ⟨g, cap, cur, hv, hbg, rest⟩
  · exact .inl hn
  · exact .inr ⟨g, cap, cur, hv, by omega, rest⟩

theorem flush_le (lit : List UInt8) (T : List Tp.Tok) : (Tp.flush lit T).length ≤ T.length + 1 := by unfold Tp.flush; split <;> simp

theorem Free.drew {B : Nat} {v : Value} {w : World} (h : Free B v w) : Free B v w.drew := h

theorem Mem.below {B : Nat} {lit : List UInt8} {T : List Tp.Tok} {w w' : World} (h : Mem B lit T w) (hb : Below w.heap.size w w') : Mem B lit T w' := by
  have hsz := h.size
  obtain ⟨⟨v, hv, hown⟩, hbld⟩ := h
  refine ⟨⟨v, ?_, hown.1, ?_⟩, bld_kept hbld fun k o hk _ => ?_⟩
  · rw [hb.block B (by omega)]; exact hv
  · rcases hown.2 with hn | ⟨g, cap, cur, hvg, hbg, hg, rest⟩
    · exact .inl hn
    · exact .inr ⟨g, cap, cur, hvg, hbg, (hb.block g (Array.getElem?_eq_some_iff.1 hg).1).trans hg, rest⟩
  · exact (hb.block k (Array.getElem?_eq_some_iff.1 hk).1).trans hk

set_option maxHeartbeats 2000000 in
set_option maxRecDepth 100000 in
theorem scan_any (F : Interp) (s : ByteArray) (w : World) (hF : F.answers w.tape) (hs : s.size ≤ 16777216) :
    Calls Tryf.prog 14 #[.string s] w fun e w' => ScanPost (Tp.run s.data.toList none [] []) w e w' := by
  generalize hR : Tp.run s.data.toList none [] [] = R
  have HR : Hid (Tp.run s.data.toList none [] [] = R) := hR
  clear hR
  go_enter Tryf.func14, Tryf.ntmps14
  go_wp2_with fail
  go_loopw [7] (fun i wr => ScanRel s w R i wr) (fun i _ => s.size - (intOf i).toNat)
  case atStart => exact ⟨0, [], [], Nat.zero_le _, rfl, Nat.le_refl _, Nat.le_refl _, HR.out, Mem.start w, ((Below.refl _ _).alloc (Nat.le_refl _) _).alloc (by simp) _⟩
  case round =>
    clear HR
    obtain ⟨k, lit, T, hk, rfl, hlit, hT, hrun, hm, hbel⟩ := hrel
    have HG : Hid (Tp.run (s.data.toList.drop k) none lit T = R) := hrun
    clear hrun
    have hsz := hm.size
    by_cases hlt : k < s.size
    · by_cases hb : Tp.brace s[k]
      · by_cases hd : Dbl s k hlt
        · have HG2 : Hid (Tp.run (s.data.toList.drop (k + 2)) none (lit ++ [s[k]]) T = R) := by have h := HG.out; rw [step_dbl hlt hb hd] at h; exact h
          obtain ⟨h1, he⟩ := hd
          have hbe : ((s[k + 1].toNat : Int) == (s[k].toNat : Int)) = true := by rw [he]; simp
          clear HG he
          rcases hb with hc | hc
          focus
            have h123 : ((s[k].toNat : Int) == 123) = true := by rw [hc]; decide
            clear hc
            go_wp2_with fail
          rotate_left
          focus
            have h123 : ((s[k].toNat : Int) == 123) = false := by rw [hc]; decide
            have h125 : ((s[k].toNat : Int) == 125) = true := by rw [hc]; decide
            clear hc
            go_wp2_with fail
          all_goals
            refine (Tryf.Builder_WriteByte_k (w.heap.size + 1) (w.heap.size + 1) (Lib.byteCells lit) (s[k].toNat : Int) _ hm.bld (by rw [Lib.byteCells_length]; omega) (by omega)).mono ?_
            rintro e W3 ⟨rfl, h4, b4, o4⟩
            have HM : Hid (Mem w.heap.size (lit ++ [s[k]]) T W3) := hm.write h4 b4 o4
            have hb5 := hbel.trans (b4.mono (Nat.le_succ _))
            clear h4 o4 b4 hm
            go_wp2
            go_roundw
            case rel => exact ⟨k + 2, lit ++ [s[k]], T, by omega, by go_num, by simp; omega, by omega, HG2.out, HM.out, hb5⟩
            case measure => simp [intOf]; omega
        · rcases hb with hc | hc
          · have hfind := step_find hlt hc hd HG.out
            have h123 : ((s[k].toNat : Int) == 123) = true := by rw [hc]; decide
            have hbe : ∀ h1 : k + 1 < s.size, ((s[k + 1].toNat : Int) == (s[k].toNat : Int)) = false := fun h1 => by
              rw [beq_eq_false_iff_ne]; intro e; exact hd ⟨h1, UInt8.toNat_inj.1 (by omega)⟩
            clear HG hc hd
            have hexs : (s.extract (k + 1) s.size).size ≤ 16777216 := by rw [ByteArray.size_extract]; omega
            rcases hfind with ⟨hi, hF0⟩ | ⟨e, hi, he, ⟨hx, hF0⟩ | ⟨hx, hrun⟩⟩
            · have HF : Hid (R = none) := hF0
              have HI : Hid (Lib.indexAny (s.extract (k + 1) s.size).data.toList [123, 125] = -1) := hi
              clear hi hF0
              by_cases h1 : k + 1 < s.size
              all_goals
                try (have hbf := hbe h1)
                clear hbe
                go_wp2_with fail
                refine (indexAny_brace _ _ hexs).mono ?_
                rintro e W2 ⟨rfl, b2⟩
                rw [HI.out]
                go_wp2_with fail
                refine (errorf_any F _ (k : Int) W2.heap.size _ (by show F.answers W2.tape; rw [b2.tape, hbel.tape]; exact hF) (fun _ => by kernel_rfl) (by simp [World.cell?_alloc_at])).mono ?_
                rintro e W3 ⟨⟨a, rfl⟩, b4⟩
                have hb6 : Below w.heap.size w W2 := hbel.trans (b2.mono hbel.size)
                have hb5 : Below w.heap.size w W3 := (hb6.alloc hb6.size _).trans (b4.mono (by have := hb6.size; simp; omega))
                clear b4 b2
                go_wp2
                go_ret2
                exact post_err HF.out hb5
            · have HF : Hid (R = none) := hF0
              have HI : Hid (Lib.indexAny (s.extract (k + 1) s.size).data.toList [123, 125] = e) := hi
              have hbx : ((s[k + 1 + e].toNat : Int) != 125) = true := by rw [hx]; decide
              have h1 : k + 1 < s.size := by omega
              have hbf := hbe h1
              clear hi hF0 hx hbe
              go_wp2_with fail
              refine (indexAny_brace _ _ hexs).mono ?_
              rintro e1 W2 ⟨rfl, b2⟩
              rw [HI.out]
              go_wp2_with fail
              refine (errorf_any F _ (k : Int) W2.heap.size _ (by show F.answers W2.tape; rw [b2.tape, hbel.tape]; exact hF) (fun _ => by kernel_rfl) (by simp [World.cell?_alloc_at])).mono ?_
              rintro e1 W3 ⟨⟨a, rfl⟩, b4⟩
              have hb6 : Below w.heap.size w W2 := hbel.trans (b2.mono hbel.size)
              have hb5 : Below w.heap.size w W3 := (hb6.alloc hb6.size _).trans (b4.mono (by have := hb6.size; simp; omega))
              clear b4 b2
              go_wp2
              go_ret2
              exact post_err HF.out hb5
            · have HG2 : Hid (Tp.run (s.data.toList.drop (k + 1 + e + 1)) none [] (Tp.flush lit T ++ [((s.extract (k + 1) (k + 1 + e)).data.toList, true)]) = R) := hrun
              have HI : Hid (Lib.indexAny (s.extract (k + 1) s.size).data.toList [123, 125] = e) := hi
              have hbx : ((s[k + 1 + e].toNat : Int) != 125) = false := by rw [hx]; decide
              have h1 : k + 1 < s.size := by omega
              have hbf := hbe h1
              have hfl := flush_le lit T
              clear hi hrun hx hbe
              go_wp2_with fail
              refine (indexAny_brace _ _ hexs).mono ?_
              rintro e1 W2 ⟨rfl, b2⟩
              rw [HI.out]
              have hm2 := hm.below b2
              have hb6 : Below w.heap.size w W2 := hbel.trans (b2.mono hbel.size)
              clear hm b2
              go_wp2_with fail
              refine (flush_any w.heap.size lit T _ hm2 (by omega) (by omega)).mono ?_
              rintro e1 W3 ⟨rfl, hm3, b3⟩
              have hb7 := hb6.trans b3
              clear hm2 b3 hb6
              have hsz3 := hm3.size
              obtain ⟨⟨v, hv, hown⟩, hbld⟩ := hm3
              obtain ⟨i0, hi, hz0, hz1, hz2⟩ := info_parts Tryf.info38
              have hcv : W3.cell? ⟨w.heap.size, 0, none⟩ = some v := by rw [Lib.cell_of_heap hv]; rfl
              have hfv : W3.frozen? ⟨w.heap.size, 0, none⟩ = false := by simp [World.frozen?, hv]
              have hfree : Free w.heap.size v W3 := ⟨hcv, hfv⟩
              have hf4 := fun o => (hfree.alloc o).1
              have hvne : v.ownBlock ≠ some w.heap.size := fun e => by have := hown.lt w.heap.size e; omega
              generalize hT1 : Tp.flush lit T = T1 at *
              clear hT1
              go_wp2_with fail
              have hw1 : IntKind.i64.wrap ((k : Int) + 1) = (k : Int) + 1 := by rw [IntKind.wrap_i64]; omega
              have hw2 : IntKind.i64.wrap ((k : Int) + 1 + (e : Int)) = (k : Int) + 1 + (e : Int) := by rw [IntKind.wrap_i64]; omega
              have hsl : ∀ W, (Instr.slice 9 (.string s) (some (.int .i64 ((k : Int) + 1))) (some (.int .i64 ((k : Int) + 1 + (e : Int)))) none).run Tryf.prog W = .ok (.string (s.extract (k + 1) (k + 1 + e))) W := by
                intro W
                have := run_slice_string (P := Tryf.prog) W 9 s .i64 .i64 ((k : Int) + 1) ((k : Int) + 1 + (e : Int)) Tryf.underlying9 (by omega) (by omega) (by omega)
                rw [this, show ((k : Int) + 1).toNat = k + 1 from by omega, show ((k : Int) + 1 + (e : Int)).toNat = k + 1 + e from by omega]
              go_region_law (refine step_append_lies _ (by rfl) _ _ _ (by rfl) (w.heap.size + 2) 38 i0 _ 2 24 Tryf.underlying23 hi hz0 hz1 hz2 rfl (by omega) v T1.length (tokCells T1) (by rfl) ((hown.alloc _).drew) ⟨W3.heap.size, 0, none⟩ 1 1 [.string (s.extract (k + 1) (k + 1 + e)), .bool true] (by rfl) (by rfl) (World.news_of_block (cs := #[.string (s.extract (k + 1) (k + 1 + e)), .bool true]) (t := 38) (fr := (0, 0)) (heap_alloc_new W3 _)) (by simp [Value.oneCell']) (by omega) (by unfold maxLen; omega) (by omega) (by simp; omega) (W3.heap.size + 1) (by simp) ?_; intro g2 cap2 w2 hown2 hgrow2 hat hlt2; have hf2 := (Free.grown (Free.alloc hfree _).drew hgrow2 hvne).1; have hf3 := (Free.grown (Free.alloc hfree _).drew hgrow2 hvne).2)
              all_goals
                have hgrow3 : (W3.alloc (.cells #[.string (s.extract (k + 1) (k + 1 + e)), .bool true] 38)).grownBy w2 v.ownBlock := ⟨hgrow2.os, hgrow2.tape, hgrow2.output, hgrow2.size, hgrow2.block⟩
                have hfin := Mem.field (T' := T1 ++ [((s.extract (k + 1) (k + 1 + e)).data.toList, true)]) hv hown hbld (by rw [tokCells_append, tokCells_one]; exact hown2) (by simp) hgrow3
                have HM : Hid (Mem w.heap.size [] (T1 ++ [((s.extract (k + 1) (k + 1 + e)).data.toList, true)]) _) := hfin.1
                have hb8 := hb7.trans hfin.2
                clear hfin hown2 hgrow2 hgrow3 hat hlt2 hf2 hf3 hown hbld hv hfree hf4 hcv hfv hb7
                go_wp2
                go_roundw
                case rel => exact ⟨k + 1 + e + 1, [], _, by omega, by go_num, by simp, by simp; omega, HG2.out, HM.out, hb8⟩
                case measure => simp [intOf]; omega
          · have HF : Hid (R = none) := by have h := HG.out; rw [step_shut hlt hc hd] at h; exact h.symm
            have h123 : ((s[k].toNat : Int) == 123) = false := by rw [hc]; decide
            have h125 : ((s[k].toNat : Int) == 125) = true := by rw [hc]; decide
            have hbe : ∀ h1 : k + 1 < s.size, ((s[k + 1].toNat : Int) == (s[k].toNat : Int)) = false := fun h1 => by
              rw [beq_eq_false_iff_ne]; intro e; exact hd ⟨h1, UInt8.toNat_inj.1 (by omega)⟩
            clear HG hc hd
            by_cases h1 : k + 1 < s.size
            all_goals
              try (have hbf := hbe h1)
              clear hbe
              go_wp2_with fail
              refine (errorf_any F _ (k : Int) wr.heap.size _ (by show F.answers wr.tape; rw [hbel.tape]; exact hF) (fun _ => by kernel_rfl) (by simp [World.cell?_alloc_at])).mono ?_
              rintro e W3 ⟨⟨a, rfl⟩, b4⟩
              have hb5 : Below w.heap.size w W3 := (hbel.alloc hbel.size _).trans (b4.mono (by have := hbel.size; simp; omega))
              clear b4
              go_wp2
              go_ret2
              exact post_err HF.out hb5
      · have HG2 : Hid (Tp.run (s.data.toList.drop (k + 1)) none (lit ++ [s[k]]) T = R) := by have h := HG.out; rw [step_plain hlt hb] at h; exact h
        have h123 : ((s[k].toNat : Int) == 123) = false := by rw [beq_eq_false_iff_ne]; have := toNat_ne (n := 123) (by omega) (fun e => hb (Or.inl e)); omega
        have h125 : ((s[k].toNat : Int) == 125) = false := by rw [beq_eq_false_iff_ne]; have := toNat_ne (n := 125) (by omega) (fun e => hb (Or.inr e)); omega
        clear HG hb
        by_cases h1 : k + 1 < s.size
        all_goals
          go_wp2_with fail
          refine (Tryf.Builder_WriteByte_k (w.heap.size + 1) (w.heap.size + 1) (Lib.byteCells lit) (s[k].toNat : Int) _ hm.bld (by rw [Lib.byteCells_length]; omega) (by omega)).mono ?_
          rintro e W3 ⟨rfl, h4, b4, o4⟩
          have HM : Hid (Mem w.heap.size (lit ++ [s[k]]) T W3) := hm.write h4 b4 o4
          have hb5 := hbel.trans (b4.mono (Nat.le_succ _))
          clear h4 o4 b4 hm
          go_wp2
          go_roundw
          case rel => exact ⟨k + 1, lit ++ [s[k]], T, by omega, by go_num, by simp; omega, by omega, HG2.out, HM.out, hb5⟩
          case measure => simp [intOf]; omega
    · have HF : Hid (R = some (lit, T)) := by
        have h := HG.out; rw [List.drop_of_length_le (by rw [len_eq]; omega), Tp.run_end] at h; exact h.symm
      clear HG
      go_wp2_with fail
      refine (flush_any w.heap.size lit T _ hm (by omega) (by omega)).mono ?_
      rintro e W3 ⟨rfl, hm3, b3⟩
      obtain ⟨⟨v, hv, hown⟩, _⟩ := hm3
      have hcv : W3.cell? ⟨w.heap.size, 0, none⟩ = some v := by rw [Lib.cell_of_heap hv]; rfl
      have HO : Hid (W3.ownsRow (w.heap.size + 2) 38 2 v (Tp.flush lit T).length (tokCells (Tp.flush lit T))) := hown
      have hb5 := hbel.trans b3
      clear hown hv b3 hm
      go_wp2
      go_ret2
      exact post_ok HF.out hb5 HO.out
end Go.Proofs.Qxb6608706aFmt
