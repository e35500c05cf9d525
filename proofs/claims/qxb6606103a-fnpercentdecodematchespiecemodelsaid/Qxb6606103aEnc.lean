/-
  THE WALK of pdEncode: it computes 'Pd.enc'.
-/
import Derived.Test.Qxb6606103aRows
import Derived.WalkKit
import Derived.WalkSpells
import Derived.WalkLawsBesides
import Derived.Deep.AppendLies
import Derived.Deep.RegionHeld3
import Derived.Deep.DrawnRows
import Derived.Laws.BytesArg
import Derived.Laws.BitsAllLaws
import Derived.Laws.IdiomStrings
import Derived.Test.Qxb6606103aPlain
namespace Go.Proofs.Qxb6606103a
open Go.RowKit

theorem Try.info5 : (Try.prog.info? 5).map (fun i => (i.zero, i.size, i.bytes)) = some (some (.int .u8 0), 1, 1) := by kernel_rfl

/-- The bytes as cells. -/
def cellsOf (l : List UInt8) : List Value := l.map fun b => Value.int .u8 (b.toNat : Int)

theorem cellsOf_append (a b : List UInt8) : cellsOf (a ++ b) = cellsOf a ++ cellsOf b := by simp [cellsOf]
theorem cellsOf_length (a : List UInt8) : (cellsOf a).length = a.length := by simp [cellsOf]
theorem cellsOf_one (a : List UInt8) : ∀ u ∈ cellsOf a, u.oneCell' = true := by
  intro u hu
  simp only [cellsOf, List.mem_map] at hu
  obtain ⟨b, _, rfl⟩ := hu
  rfl

/-- The bytes of a string up to k + 1. -/
theorem take_snoc (s : ByteArray) (k : Nat) (h : k < s.size) : s.data.toList.take (k + 1) = s.data.toList.take k ++ [s[k]] := by
  rw [List.take_succ_eq_append_getElem (by simpa using h)]; rfl

/-- 'string(out)', out an owned row of bytes. -/
theorem conv_own {W : World} {base g cap : Nat} {l : List UInt8} (h : W.ownsRow base 5 1 (.slice (some ⟨g, 0, none⟩) l.length cap) l.length (cellsOf l)) :
    (convert 28 9 (.slice (some ⟨g, 0, none⟩) l.length cap)).run Try.prog W = .ok (.string ⟨l.toArray⟩) W := by
  refine run_convert_bytes_back W 28 9 5 ⟨g, 0, none⟩ cap l Try.underlying28 Try.underlying5 Try.underlying9 ?_
  intro j hj
  have hadd : (⟨g, 0, none⟩ : Addr).add j = ⟨g, j, none⟩ := by unfold Addr.add; split <;> simp_all
  rw [hadd, h.cellAt j (by omega)]
  simp [cellsOf, List.getElem?_eq_getElem hj]

/-- The sixteen digits. -/
structure IsDigits (u : Bool) (D : ByteArray) : Prop where
  size : D.size = 16
  at_ : ∀ n : Fin 16, D.data[n.val]? = some (Pd.dig u n.val)

theorem IsDigits.run {u : Bool} {D : ByteArray} (h : IsDigits u D) (n : Nat) (hn : n < 16) (i : Int) (hi : i = (n : Int)) (w : World) :
    (Instr.index 9 (.string D) (.int .u8 i)).run Try.prog w = .ok (.int .u8 ((Pd.dig u n).toNat : Int)) w := by
  have hs := h.size
  rw [run_index_string (P := Try.prog) w 9 D .u8 i Try.underlying9, dif_pos (by omega)]
  subst hi
  have e := h.at_ ⟨n, hn⟩
  have e2 : D[((n : Int)).toNat]'(by omega) = Pd.dig u n := by
    have hlt : n < D.data.size := by show n < D.size; omega
    rw [Array.getElem?_eq_getElem hlt] at e
    simp only [Option.some.injEq] at e
    exact e
  rw [e2]

theorem enc_snoc (all u : Bool) (s : ByteArray) (k : Nat) (h : k < s.size) :
    Pd.enc all u (s.data.toList.take (k + 1)) = Pd.enc all u (s.data.toList.take k) ++ Pd.enc1 all u s[k] := by
  rw [take_snoc s k h, Pd.enc_append, Pd.enc_one]

/-- The relation at the loop's head. -/
def EncRel (s : ByteArray) (all u : Bool) (w : World) (v i : Value) (wr : World) : Prop :=
  ∃ (k g cap : Nat), k ≤ s.size ∧ i = .int .i64 k ∧
      v = .slice (some ⟨g, 0, none⟩) (Pd.enc all u (s.data.toList.take k)).length cap ∧
      wr.ownsRow w.heap.size 5 1 v (Pd.enc all u (s.data.toList.take k)).length (cellsOf (Pd.enc all u (s.data.toList.take k))) ∧ Below w.heap.size w wr

/-- The relation one round on. -/
theorem EncRel.step {s : ByteArray} {all u : Bool} {w wr w2 : World} {k g g2 cap cap2 m : Nat} {E news : List UInt8} (hE : Pd.enc all u (s.data.toList.take k) = E) (hlt : k < s.size)
    (he : Pd.enc1 all u s[k] = news) (hm : news.length = m) {j : Value} (hj : j = .int .i64 ((k + 1 : Nat) : Int)) {W : World}
    (hbel : Below w.heap.size w W) (hown : wr.ownsRow w.heap.size 5 1 (.slice (some ⟨g, 0, none⟩) E.length cap) E.length (cellsOf E))
    (hown2 : w2.ownsRow w.heap.size 5 1 (.slice (some ⟨g2, 0, none⟩) (E.length + m) cap2) (E.length + m) (cellsOf E ++ cellsOf news))
    (hgrow : W.grownBy w2 (some g)) :
    EncRel s all u w (.slice (some ⟨g2, 0, none⟩) (E.length + m) cap2) j w2 := by
  have hs := enc_snoc all u s k hlt
  rw [hE, he] at hs
  have hl : (Pd.enc all u (s.data.toList.take (k + 1))).length = E.length + m := by rw [hs, List.length_append, hm]
  refine ⟨k + 1, g2, cap2, hlt, hj, by rw [hl], ?_, ?_⟩
  · rw [hl, hs, cellsOf_append]; exact hown2
  · have h1 := hown.lt g rfl
    exact hbel.grown hgrow hbel.size (by intro b hb; simp at hb; omega)

set_option maxHeartbeats 1000000 in
set_option maxRecDepth 100000 in
/-- pdEncode at every string of at most 2^18 bytes. -/
theorem pdEncode_any (s : ByteArray) (all u : Bool) (w : World) (hs : s.size ≤ 262144) :
    Calls Try.prog 10 #[.string s, .bool all, .bool u] w fun e w' => e = .returned (.string ⟨(Pd.enc all u s.data.toList).toArray⟩) ∧ Below w.heap.size w w' := by
  suffices H : ∀ u', u' = u → Calls Try.prog 10 #[.string s, .bool all, .bool u] w fun e w' => e = .returned (.string ⟨(Pd.enc all u' s.data.toList).toArray⟩) ∧ Below w.heap.size w w' from H u rfl
  intro u' hu
  have HU : Hid (u' = u) := hu
  clear hu
  obtain ⟨i0, hi, hz0, hz1, hz2⟩ := info_parts Try.info5
  cases u
  all_goals
    go_enter Try.func10, Try.ntmps10
    go_wp2_with (at_make; refine wpList_make_own _ rfl _ _ 28 rfl w.heap.size 5 i0 (.int .u8 0) 1 Try.underlying28 hi hz0 hz1 _ _ _ (3 * s.size) rfl rfl (by omega) (by rw [hz2]; omega) (by unfold maxLen; omega) (Nat.le_refl _) ?_; intro w1 hown1 hgrow1)
  focus
    generalize hgD : (ByteArray.mk #[48, 49, 50, 51, 52, 53, 54, 55, 56, 57, 97, 98, 99, 100, 101, 102]) = D
    have hD : IsDigits u' D := by rw [HU.out]; subst hgD; exact ⟨rfl, by decide⟩
  rotate_left
  focus
    generalize hgD : (ByteArray.mk #[48, 49, 50, 51, 52, 53, 54, 55, 56, 57, 65, 66, 67, 68, 69, 70]) = D
    have hD : IsDigits u' D := by rw [HU.out]; subst hgD; exact ⟨rfl, by decide⟩
  all_goals
    clear hgD HU
    go_loopw [8, 9] (fun v i wr => EncRel s all u' w v i wr) (fun _ i _ => s.size - (intOf i).toNat)
    case atStart =>
      refine ⟨0, w.heap.size, 3 * s.size, Nat.zero_le _, rfl, rfl, hown1, ?_⟩
      exact (Below.refl _ _).grown hgrow1 (Nat.le_refl _) (by intro b hb; simp at hb)
    case round =>
      obtain ⟨k, g, cap, hk, rfl, rfl, hown, hbel⟩ := hrel
      have hEl : (Pd.enc all u' (s.data.toList.take k)).length ≤ 3 * k := by
        have := Pd.enc_le all u' (s.data.toList.take k); have := List.length_take_le k s.data.toList; omega
      generalize hE : Pd.enc all u' (s.data.toList.take k) = E at *
      have HE : Hid (Pd.enc all u' (s.data.toList.take k) = E) := hE
      clear hE
      have hsz := hbel.size
      by_cases hlt : k < s.size
      · have hc256 : (s[k].toNat : Int) < 256 := by have := s[k].toNat_lt; omega
        have hx1 := hD.run (s[k].toNat / 16) (by omega) ((s[k].toNat : Int) / 16) (by omega)
        have hx2 := hD.run (s[k].toNat % 16) (by omega) ((s[k].toNat : Int) % 16) (by omega)
        have hx3 := hD.run (s[k].toNat % 16) (by omega) (bits .and .u8 (s[k].toNat : Int) 15) (by have := u8_and_nat s[k].toNat 15 (by omega) (by omega); rw [show (15 : Int) = ((15 : Nat) : Int) from rfl, this]; have := Nat.and_two_pow_sub_one_eq_mod s[k].toNat 4; simp at this; rw [this])
        have hx4 : s[k].toNat = 37 → ∀ w, (Instr.index 9 (.string D) (.int .u8 2)).run Try.prog w = .ok (.int .u8 ((Pd.dig u' (s[k].toNat / 16)).toNat : Int)) w := fun e => hD.run _ (by omega) 2 (by omega)
        have hx5 : s[k].toNat = 37 → ∀ w, (Instr.index 9 (.string D) (.int .u8 5)).run Try.prog w = .ok (.int .u8 ((Pd.dig u' (s[k].toNat % 16)).toNat : Int)) w := fun e => hD.run _ (by omega) 5 (by omega)
        have hx8 : s[k].toNat = 37 → ∀ w, (Instr.index 9 (.string D) (.int .u8 (bits .and .u8 37 15))).run Try.prog w = .ok (.int .u8 ((Pd.dig u' (s[k].toNat % 16)).toNat : Int)) w := fun e => hD.run _ (by omega) _ (by rw [e]; decide)
        by_cases hesc : all = true ∨ s[k].toNat = 37 ∨ s[k].toNat < 33 ∨ 127 ≤ s[k].toNat
        · have HN : Hid (Pd.enc1 all u' s[k] = [37, Pd.dig u' (s[k].toNat / 16), Pd.dig u' (s[k].toNat % 16)]) := Pd.enc1_esc u' hesc
          generalize Pd.dig u' (s[k].toNat / 16) = d1 at *
          generalize Pd.dig u' (s[k].toNat % 16) = d2 at *
          have HS : Hid (all = true ∨ s[k].toNat = 37 ∨ s[k].toNat < 33 ∨ 127 ≤ s[k].toNat) := hesc
          clear hesc
          have h4 : all = true ∨ (all = false ∧ ((37 ≤ (s[k].toNat : Int) ∧ (s[k].toNat : Int) ≤ 37) ∨ (s[k].toNat : Int) < 33 ∨ 127 ≤ (s[k].toNat : Int))) := by
            cases hall : all
            · right; refine ⟨rfl, ?_⟩
              rcases HS.out with h | h | h | h
              · simp [hall] at h
              · omega
              · omega
              · omega
            · left; rfl
          clear HS
          rcases h4 with rfl | ⟨rfl, ⟨h2, h2'⟩ | h2 | h2⟩
          all_goals
            try (have hx6 := hx4 (by omega); have hx7 := hx5 (by omega); have hx9 := hx8 (by omega))
            clear hx4 hx5 hx8
            go_wp2_with fail
            go_region_held3 (fun _ => True) (trivial)
              ((refine step_append_lies _ (by rfl) _ _ _ (by rfl) w.heap.size 5 i0 _ 1 1 Try.underlying28 hi hz0 hz1 hz2 rfl (by omega) _ E.length (cellsOf E) (by rfl) ((hown.alloc _).drew) ⟨wr.heap.size, 0, none⟩ 3 3 (cellsOf [37, d1, d2]) (by rfl) (by rfl) (World.news_of_block (cs := #[.int .u8 37, .int .u8 (d1.toNat : Int), .int .u8 (d2.toNat : Int)]) (t := 5) (fr := (0, 0)) (heap_alloc_new wr _)) (cellsOf_one _) (by omega) (by unfold maxLen; omega) (by omega) (by simp; omega) (wr.heap.size + 1) (by simp) ?_; intro g2 cap2 w2 hown2 hgrow2 hat hlt2))
            all_goals
              go_wp2
              go_roundw
              case rel => exact EncRel.step HE.out hlt HN.out rfl (by go_num) ((hbel.alloc hbel.size _).drew) hown hown2 hgrow2
              case measure => simp [intOf]; omega
        · have HN : Hid (Pd.enc1 all u' s[k] = [s[k]]) := Pd.enc1_plain u' hesc
          obtain rfl : all = false := by cases all <;> simp_all
          have h2 : ¬ (s[k].toNat : Int) = 37 := by omega
          have h3 : ¬ (s[k].toNat : Int) < 33 := by omega
          have h5 : ¬ (127 ≤ (s[k].toNat : Int)) := by omega
          clear hesc hx1 hx2 hx3 hx4 hx5 hx8
          go_wp2_with (at_builtin; refine wpList_append_lies _ rfl _ _ _ rfl w.heap.size 5 i0 _ 1 1 Try.underlying28 hi hz0 hz1 hz2 rfl (by omega) _ E.length (cellsOf E) rfl (hown.alloc _) ⟨wr.heap.size, 0, none⟩ 1 1 (cellsOf [s[k]]) rfl rfl (World.news_of_block (cs := #[.int .u8 (s[k].toNat : Int)]) (t := 5) (fr := (0, 0)) (heap_alloc_new wr _)) (cellsOf_one _) (by omega) (by unfold maxLen; omega) (by omega) (by simp; omega) (wr.heap.size + 1) (by simp) ?_; intro g2 cap2 w2 hown2 hgrow2 hat hlt2)
          go_roundw
          case rel => exact EncRel.step HE.out hlt HN.out rfl (by go_num) (hbel.alloc hbel.size _) hown hown2 hgrow2
          case measure => simp [intOf]; omega
      · have hcv := conv_own hown
        go_wp2
        go_ret
        refine ⟨?_, hbel⟩
        rw [← HE.out, List.take_of_length_le (by simp; omega)]
        rfl
end Go.Proofs.Qxb6606103a
