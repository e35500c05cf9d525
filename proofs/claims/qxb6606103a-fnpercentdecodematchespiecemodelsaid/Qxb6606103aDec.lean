/-
  THE WALK of percentDecode: it computes 'Pd.go'.
-/
import Derived.Test.Qxb6606103aRows
import Derived.WalkKit
import Derived.WalkSpells
import Derived.WalkLawsBesides
import Derived.BigCall
import Derived.Deep.DeepFit
import Derived.Lib.IndexLaws
import Derived.Lib.Strings
import Derived.Test.Qxb6606103aShelf
import Derived.Test.Qxb6606103aHex
namespace Go.Proofs.Qxb6606103a
open Go.RowKit

theorem drop_at (s : ByteArray) (k : Nat) (h : k < s.size) : s.data.toList.drop k = s[k] :: s.data.toList.drop (k + 1) := by
  rw [List.drop_eq_getElem_cons (by simpa using h)]; rfl

theorem hexN_lt (c : UInt8) : (Pd.hexN c).1 < 16 := by
  unfold Pd.hexN
  repeat' split
  all_goals simp only
  all_goals omega

theorem pair_toNat (h l : UInt8) : (Pd.pair h l).toNat = (Pd.hexN h).1 * 16 + (Pd.hexN l).1 := by
  have h1 := hexN_lt h
  have h2 := hexN_lt l
  unfold Pd.pair
  rw [UInt8.toNat_ofNat']
  omega

theorem or_hex_all : ∀ x1 x2 : Fin 16, bits .or .u8 ((x1.val : Int) * 16) (x2.val : Int) = ((x1.val * 16 + x2.val : Nat) : Int) := by decide +kernel

theorem or_hex (x1 x2 : Nat) (h1 : x1 < 16) (h2 : x2 < 16) : bits .or .u8 ((x1 : Int) * 16) (x2 : Int) = ((x1 * 16 + x2 : Nat) : Int) := or_hex_all ⟨x1, h1⟩ ⟨x2, h2⟩

/-- The relation at the loop's head: what is left to decode gives R. -/
def DecRel (s : ByteArray) (w : World) (R : List UInt8 × Int) (i : Value) (wr : World) : Prop :=
  ∃ (k : Nat) (acc : List UInt8), k ≤ s.size ∧ i = .int .i64 k ∧ acc.length ≤ k ∧ Pd.go (s.data.toList.drop k) k acc = R ∧
    Lib.IsBuilder 34 5 w.heap.size w.heap.size (Lib.byteCells acc) wr ∧ Below w.heap.size w wr

set_option maxHeartbeats 400000 in
set_option maxRecDepth 100000 in
theorem percentDecode_any (s : ByteArray) (w : World) (hs : s.size ≤ 16777216) :
    Calls Try.prog 12 #[.string s] w fun e w' => e = .returned (.tuple #[.string ⟨(Pd.go s.data.toList 0 []).1.toArray⟩, .int .i64 (Pd.go s.data.toList 0 []).2]) ∧ Below w.heap.size w w' := by
  generalize hR : Pd.go s.data.toList 0 [] = R
  have HR : Hid (Pd.go s.data.toList 0 [] = R) := hR
  clear hR
  have hge := Lib.indexByte_ge s.data.toList 37
  by_cases hno : Lib.indexByte s.data.toList 37 = -1
  · have hfin : R = (s.data.toList, -1) := by
      rw [← HR.out, Pd.go_all _ _ _ ?_]; · simp
      intro c hc e
      obtain ⟨j, hj, he⟩ := List.getElem_of_mem hc
      exact Lib.indexByte_none hno j (by rw [List.getElem?_eq_getElem hj, he, e])
    have HF : Hid (R = (s.data.toList, -1)) := hfin
    clear hfin HR
    have HN : Hid (Lib.indexByte s.data.toList 37 = -1) := hno
    clear hno hge
    go_enter Try.func12, Try.ntmps12
    go_wp2_with (go_at_call 14; refine (Try.strings_IndexByte s 37 _).mono ?_)
    rintro e w' ⟨rfl, rfl⟩
    rw [show ((37 : Int).toNat.toUInt8) = 37 from rfl, HN.out]
    go_wp2
    go_ret2
    rw [HF.out]
    exact ⟨rfl, Below.refl _ _⟩
  · obtain ⟨i, hi⟩ : ∃ i : Nat, Lib.indexByte s.data.toList 37 = i := ⟨(Lib.indexByte s.data.toList 37).toNat, by omega⟩
    obtain ⟨h1, h2⟩ := Lib.indexByte_some hi
    have hil : i < s.size := by
      have := (List.getElem?_eq_some_iff.1 h1).1
      simpa using this
    have HI : Hid (Lib.indexByte s.data.toList 37 = i) := hi
    clear hi hge hno
    have HS : Hid (Pd.go (s.data.toList.drop i) i (s.data.toList.take i) = R) := by
      have := Pd.go_prefix (s.data.toList.take i) (s.data.toList.drop i) 0 [] (by
        intro c hc e
        obtain ⟨j, hj, he⟩ := List.getElem_of_mem hc
        rw [List.length_take] at hj
        rw [List.getElem_take] at he
        exact h2 j (by omega) (by rw [List.getElem?_eq_getElem (by omega), he, e]))
      rw [List.take_append_drop, HR.out] at this
      have hl : (s.data.toList.take i).length = i := by rw [List.length_take]; have : s.data.toList.length = s.size := by simp
                                                        omega
      rw [hl] at this
      have h3 : Pd.go (s.data.toList.drop i) i (s.data.toList.take i) = R := by simpa using this.symm
      exact h3
    clear HR h1 h2
    go_enter Try.func12, Try.ntmps12
    go_wp2_with (go_at_call 14; refine (Try.strings_IndexByte s 37 _).mono ?_)
    rintro e w' ⟨rfl, rfl⟩
    rw [show ((37 : Int).toNat.toUInt8) = 37 from rfl, HI.out]
    have b0 : Below w'.heap.size w' (w'.alloc (.cells #[.pointer none, .slice none 0 0] 34)) := (Below.refl _ w').alloc (Nat.le_refl _) _
    go_wp2_with (go_at_call 15; refine (Try.Builder_Grow_fresh w'.heap.size w'.heap.size s.size _ (Nat.le_refl _) (heap_alloc_new w' _) b0.size (by omega)).mono ?_)
    rintro e W1 ⟨rfl, h1, b1⟩
    have B1 := b0.trans b1
    clear b0 b1
    go_wp2_with (go_at_call 16; refine (Try.Builder_WriteString w'.heap.size w'.heap.size [] (s.extract 0 i) _ (Or.inr h1) (by simp; omega) B1.size).mono ?_)
    rintro e W2 ⟨rfl, h2, b2⟩
    have h3 : Lib.IsBuilder 34 5 w'.heap.size w'.heap.size (Lib.byteCells (s.data.toList.take i)) W2 := by
      rw [List.nil_append, Lib.strCells_eq, Lib.extract_data] at h2
      refine Or.inr ?_
      simpa using h2
    have B2 := B1.trans b2
    clear h1 h2 B1 b2
    go_wp2_with fail
    go_loopw [4] (fun i wr => DecRel s w' R i wr) (fun i _ => s.size - (intOf i).toNat)
    case atStart =>
      exact ⟨i, s.data.toList.take i, by omega, rfl, List.length_take_le _ _, HS.out, h3, B2⟩
    case round =>
      clear h3 B2 HS HI
      obtain ⟨k, acc, hk, rfl, hacc, hgo, hbld, hbel⟩ := hrel
      have HG : Hid (Pd.go (s.data.toList.drop k) k acc = R) := hgo
      clear hgo
      by_cases hlt : k < s.size
      · have hc256 : (s[k].toNat : Int) < 256 := by have := s[k].toNat_lt; omega
        have hd := drop_at s k hlt
        by_cases h37 : s[k] = 37
        · have h37' : ((s[k].toNat : Int) == 37) = true := by rw [h37]; decide
          rw [h37] at hd
          have HD : Hid (s.data.toList.drop k = 37 :: s.data.toList.drop (k + 1)) := hd
          clear hd h37
          by_cases hsh : s.size ≤ k + 2
          · have HF : Hid (R = ([], (k : Int))) := by
              have h := HG.out
              rw [HD.out] at h
              have hl : (s.data.toList.drop (k + 1)).length < 2 := by
                have : s.data.toList.length = s.size := by simp
                rw [List.length_drop]; omega
              generalize s.data.toList.drop (k + 1) = r at h hl
              match r, hl, h with
              | [], _, h => rw [Pd.go_short0] at h; exact h.symm
              | [a], _, h => rw [Pd.go_short1] at h; exact h.symm
            clear HG HD
            go_wp2
            go_ret2
            rw [HF.out]
            exact ⟨rfl, hbel⟩
          · have hlt1 : k + 1 < s.size := by omega
            have hlt2 : k + 2 < s.size := by omega
            have hd1 := drop_at s (k + 1) hlt1
            have hd2 := drop_at s (k + 2) hlt2
            have HG3 : Hid (Pd.go (37 :: s[k + 1] :: s[k + 2] :: s.data.toList.drop (k + 3)) k acc = R) := by
              have h := HG.out; rw [HD.out, hd1, hd2] at h; exact h
            clear HG HD hd1 hd2
            have hx1 := hexN_lt s[k + 1]
            have hx2 := hexN_lt s[k + 2]
            go_wp2_with fail
            refine (hexValue_any s[k + 1] _).mono ?_
            rintro e W3 ⟨rfl, rfl⟩
            go_wp2_with fail
            refine (hexValue_any s[k + 2] _).mono ?_
            rintro e W4 ⟨rfl, rfl⟩
            by_cases hb : (Pd.hexN s[k + 1]).2 = true ∧ (Pd.hexN s[k + 2]).2 = true
            · obtain ⟨hb1, hb2⟩ := hb
              have HG4 : Hid (Pd.go (s.data.toList.drop (k + 3)) (k + 3) (acc ++ [Pd.pair s[k + 1] s[k + 2]]) = R) := by
                have h := HG3.out; rw [Pd.go_good _ _ _ _ _ hb1 hb2] at h; exact h
              rw [hb1, hb2]
              clear HG3 hb1 hb2
              have HP : Hid ((Pd.pair s[k + 1] s[k + 2]).toNat = (Pd.hexN s[k + 1]).1 * 16 + (Pd.hexN s[k + 2]).1) := pair_toNat _ _
              generalize (Pd.hexN s[k + 1]).1 = x1 at *
              generalize (Pd.hexN s[k + 2]).1 = x2 at *
              generalize Pd.pair s[k + 1] s[k + 2] = c at *
              have HO : Hid (bits .or .u8 ((x1 : Int) * 16) (x2 : Int) = (c.toNat : Int)) := by
                have h := or_hex x1 x2 hx1 hx2
                rw [← HP.out] at h; exact h
              clear HP
              go_wp2_with fail
              refine (Try.Builder_WriteByte w'.heap.size w'.heap.size (Lib.byteCells acc) _ _ hbld (by rw [Lib.byteCells_length]; omega) hbel.size).mono ?_
              rintro e W3 ⟨rfl, h4, b4⟩
              rw [HO.out] at h4
              go_wp2
              go_roundw
              case rel => exact ⟨k + 3, acc ++ [c], by omega, by go_num, by simp; omega, HG4.out, by rw [Lib.byteCells_append]; exact Or.inr h4, hbel.trans b4⟩
              case measure => simp [intOf]; omega
            · have HF : Hid (R = ([], (k : Int))) := by
                have h := HG3.out; rw [Pd.go_bad _ _ _ _ _ hb] at h; exact h.symm
              have hb' : (Pd.hexN s[k + 1]).2 = false ∨ ((Pd.hexN s[k + 1]).2 = true ∧ (Pd.hexN s[k + 2]).2 = false) := by
                cases h1 : (Pd.hexN s[k + 1]).2 <;> cases h2 : (Pd.hexN s[k + 2]).2 <;> simp_all
              clear HG3 hb
              rcases hb' with h1 | ⟨h1, h2⟩
              · rw [h1]
                clear h1
                go_wp2
                go_ret2
                rw [HF.out]
                exact ⟨rfl, hbel⟩
              · rw [h1, h2]
                clear h1 h2
                go_wp2
                go_ret2
                rw [HF.out]
                exact ⟨rfl, hbel⟩
        · have HG2 : Hid (Pd.go (s.data.toList.drop (k + 1)) (k + 1) (acc ++ [s[k]]) = R) := by
            have h := HG.out; rw [hd, Pd.go_plain _ _ _ _ h37] at h; exact h
          have h37' : ((s[k].toNat : Int) == 37) = false := by
            rw [beq_eq_false_iff_ne]; intro e; apply h37; apply UInt8.toNat_inj.1; show s[k].toNat = 37; omega
          clear HG hd h37
          go_wp2_with (go_at_call 18; refine (Try.Builder_WriteByte w'.heap.size w'.heap.size (Lib.byteCells acc) (s[k].toNat : Int) _ hbld (by rw [Lib.byteCells_length]; omega) hbel.size).mono ?_)
          rintro e W3 ⟨rfl, h4, b4⟩
          go_wp2
          go_roundw
          case rel => exact ⟨k + 1, acc ++ [s[k]], hlt, by go_num, by simp; omega, HG2.out, by rw [Lib.byteCells_append]; exact Or.inr h4, hbel.trans b4⟩
          case measure => simp [intOf]; omega
      · have HF : Hid (R = (acc, -1)) := by
          have h := HG.out
          rw [List.drop_of_length_le (by simp; omega), Pd.go_nil] at h
          exact h.symm
        clear HG
        go_wp2_with (go_at_call 19; refine (Try.Builder_String_any w'.heap.size w'.heap.size acc _ hbld hbel.size).mono ?_)
        rintro e W3 ⟨rfl, b4⟩
        go_wp2
        go_ret2
        rw [HF.out]
        exact ⟨rfl, hbel.trans b4⟩
end Go.Proofs.Qxb6606103a
