/-
  LAW 1, THE WALK.
-/
import Derived.Test.Qxb6608979aWant
import Derived.Deep.AppendLies
namespace Go.Proofs.Qxb6608979a
open Go.RowKit

theorem info21 : (Try.prog.info? 21).map (fun i => (i.zero, i.size, i.bytes)) = some (some (.int .i32 0), 1, 4) := by kernel_rfl

/-- Loop 1's relation. -/
def WantRel (rs : List Int) (w4 : World) (want nl i : Value) (wr : World) : Prop :=
  ∃ (k n : Nat) (A : List Int) (g cap : Nat), k ≤ rs.length ∧ i = .int .i64 k ∧ nl = .int .i64 n ∧ want = .slice (some ⟨g, 0, none⟩) A.length cap ∧
    wr.ownsRow w4.heap.size 21 1 (.slice (some ⟨g, 0, none⟩) A.length cap) A.length (A.map (Value.int .i32)) ∧ Below w4.heap.size w4 wr ∧ WN rs A k n

theorem want_push {rs A : List Int} {w4 wr w8 : World} {k m g cap g8 c8 : Nat} {x : Int} {ob : Obj} {nl i : Value}
    (hown : wr.ownsRow w4.heap.size 21 1 (.slice (some ⟨g, 0, none⟩) A.length cap) A.length (A.map (Value.int .i32))) (hb : Below w4.heap.size w4 wr)
    (hown8 : w8.ownsRow w4.heap.size 21 1 (.slice (some ⟨g8, 0, none⟩) (A.length + 1) c8) (A.length + 1) (A.map (Value.int .i32) ++ [.int .i32 x])) (hg : (wr.alloc ob).grownBy w8 (some g)) (hk : k < rs.length)
    (hwn : WN rs (A ++ [x]) (k + 1) m) (hi : i = .int .i64 ((k + 1 : Nat) : Int)) (hnl : nl = .int .i64 (m : Int)) : WantRel rs w4 (.slice (some ⟨g8, 0, none⟩) (A.length + 1) c8) nl i w8 := by
  refine ⟨k + 1, m, A ++ [x], g8, c8, hk, hi, hnl, by simp, by simpa using hown8, ?_, hwn⟩
  exact ((hb.alloc hb.size ob).grown hg (by have := hb.size; simp; omega) (fun b hb' => by cases hb'; exact (hown.lt g rfl).1))

theorem jn_mem_le : ∀ (L : List (List Int)) (y : List Int), y ∈ L → y.length ≤ (jn L).length
  | [], y, h => by simp at h
  | [z], y, h => by simp at h; subst h; simp [jn]
  | z :: u :: L, y, h => by
    rw [jn_cons _ _ (by simp)]
    rcases List.mem_cons.1 h with rfl | h
    · simp
    · have := jn_mem_le (u :: L) y h
      simp; omega
theorem bel_drewN {B : Nat} {a w : World} (h : Below B a w) (q : Nat) : Below B a (w.drewN q) := ⟨h.os, h.tape, h.output, h.size, h.block⟩
theorem runes_drewN {W : World} {a : Option Addr} {l : List Int} (h : Runes W a l) (q : Nat) : Runes (W.drewN q) a l := fun hl => by
  obtain ⟨R, o, rfl, hR, hc⟩ := h hl
  exact ⟨R, o, rfl, by simpa using hR, fun m hm => by simpa using hc m hm⟩

set_option maxHeartbeats 4000000 in
set_option maxRecDepth 100000 in
theorem law1_main (hclo : CloHolds) (s : ByteArray) (w : World) (hs : s.size ≤ 65536) :
    Calls Try.prog 3 #[.string s] w fun e w' => e = .returned (.bool true) ∧ Below w.heap.size w w' := by
  obtain ⟨i0, hi, hz0, hz1, hz2⟩ := info_parts info21
  have HCLO : Hid CloHolds := hclo
  clear hclo
  go_enter Try.func3, Try.ntmps3
  go_wp2_with fail
  refine (zzBytes5_any s _ (by omega)).mono ?_
  rintro e w' ⟨rfl, rfl⟩
  go_wp2_with fail
  refine (newText_any s _).mono ?_
  rintro e w1 ⟨rfl, hw1⟩
  have HT1 : Hid (Txt w'.heap.size (.string s) (.slice none 0 0) 0 0 w1) := by rw [hw1]; exact heap_alloc_new w' _
  have b1 : Below w'.heap.size w' w1 := by rw [hw1]; exact (Below.refl _ _).alloc (Nat.le_refl _) _
  clear hw1
  go_wp2_with fail
  refine (lines_first HCLO.out w'.heap.size s w1 HT1.out (by omega)).mono ?_
  rintro e w2 ⟨v, rfl, hla, htx, hb2⟩
  have b2 := b1.trans hb2
  have HLA2 : Hid (LinesAt w2 v (lns (rn s))) := hla
  have HT2 : Hid (Txt w'.heap.size (.string ⟨#[]⟩) v 1 0 w2) := htx
  clear hla htx hb2 b1 HT1 HCLO
  go_wp2_with fail
  refine (lines_again w'.heap.size _ v 0 w2 HT2.out).mono ?_
  rintro e w3 ⟨rfl, hb3⟩
  have b3 := b2.trans (hb3.mono b2.size)
  have HLA3 : Hid (LinesAt w3 v (lns (rn s))) := HLA2.out.below hb3
  clear hb3 b2 HLA2 HT2
  obtain ⟨c, hc, hcv⟩ := conv_any s (by omega) w3
  have hrl := rn_len s
  have HRR : Hid (∀ m (h : m < (rn s).length), (w3.drew.alloc (.cells (runeRow s c) 21)).cell? ⟨w3.heap.size, m, none⟩ = some (.int .i32 (rn s)[m])) := fun m h => by
    rw [cell_of_row (w3.drew.alloc (.cells (runeRow s c) 21)) w3.heap.size m _ _ _ (heap_alloc_new w3.drew _), runeRow_at s c m h]
  have hb4 : Below w3.heap.size w3 (w3.drew.alloc (.cells (runeRow s c) 21)) := (Below.refl _ _).drew.alloc (Nat.le_refl _) _
  have b4 := b3.trans (hb4.mono b3.size)
  have HLA4 : Hid (LinesAt (w3.drew.alloc (.cells (runeRow s c) 21)) v (lns (rn s))) := HLA3.out.below hb4
  have hR4 : w3.heap.size < (w3.drew.alloc (.cells (runeRow s c) 21)).heap.size := by simp
  have HLL : Hid ((lns (rn s)).length = (rn s).count 10 + 1) := lns_len _
  have HJN : Hid (jn (lns (rn s)) = wl (rn s)) := jn_lns _
  have HNO : Hid (∀ y ∈ lns (rn s), ∀ x ∈ y, x ≠ 10) := fun y hy x hx => lnsA_no (rn s) [] (by simp) y hy x hx
  have hLb : (lns (rn s)).length ≤ 65537 := by have := HLL.out; have := List.count_le_length (a := (10 : Int)) (l := rn s); omega
  clear hb4 b3 HLA3
  generalize w3.drew.alloc (.cells (runeRow s c) 21) = w4 at *
  generalize w3.heap.size = R at *
  generalize lns (rn s) = L at *
  have hrs : (rn s).length ≤ 65536 := by omega
  clear hrl hs
  generalize rn s = rs at *
  obtain ⟨v5, w5, hmk, hown5, hgr5⟩ : ∃ v5 w5, (Instr.makeSlice 27 (.int .i64 0) (.int .i64 (rs.length : Int))).run Try.prog w4 = .ok (.slice (some ⟨v5, 0, none⟩) 0 rs.length) w5 ∧ w5.ownsRow w4.heap.size 21 1 (.slice (some ⟨v5, 0, none⟩) 0 rs.length) 0 [] ∧ w4.grownBy w5 none := by
    obtain ⟨w5, h1, h2, h3⟩ := run_make_own (P := Try.prog) w4 w4.heap.size 27 21 i0 _ 1 Try.underlying27 hi hz0 hz1 .i64 .i64 rs.length (by rw [hz2]; omega) (by unfold maxLen; omega) (Nat.le_refl _)
    exact ⟨_, w5, h1, h2, h3⟩
  have HST : Hid (WantRel rs w4 (.slice (some ⟨v5, 0, none⟩) 0 rs.length) (.int .i64 0) (.int .i64 0) w5) :=
    ⟨0, 0, [], v5, rs.length, Nat.zero_le _, rfl, rfl, rfl, hown5, (Below.refl _ _).grown hgr5 (Nat.le_refl _) (by intro b hb; simp at hb), by simp [WN]⟩
  clear hown5 hgr5
  obtain ⟨S, cap, rfl, hcap, hS, hlin⟩ := HLA4.out
  have HLIN : Hid (∀ j (h : j < L.length), ∃ a c, w4.cell? ⟨S, j, none⟩ = some (.slice a L[j].length c) ∧ Runes w4 a L[j]) := hlin
  clear hlin HLA4
  go_wp2_with fail
  go_loopw [7, 8, 9] (fun want nl i wr => WantRel rs w4 want nl i wr) (fun _ _ i _ => rs.length - (intOf i).toNat)
  case atStart => exact HST.out
  case round =>
    clear HST hcv hmk
    obtain ⟨k, n, A, g, cp, hk, rfl, rfl, rfl, hown, hb, hwn⟩ := hrel
    have HOWN : Hid (wr.ownsRow w4.heap.size 21 1 (.slice (some ⟨g, 0, none⟩) A.length cp) A.length (A.map (Value.int .i32))) := hown
    have HB : Hid (Below w4.heap.size w4 wr) := hb
    have HWN : Hid (WN rs A k n) := hwn
    have hA : A.length ≤ k := hwn.2.2.1
    have hn : n ≤ k := hwn.2.2.2
    have hsz := hb.size
    clear hown hb hwn
    by_cases hlt : k < rs.length
    · have hx1 : wr.cell? ⟨R, k, none⟩ = some (.int .i32 rs[k]) := by rw [HB.out.cell hR4]; exact HRR.out k hlt
      have HNE0 : Hid (¬ (rs[k] = 13 ∧ ends rs k) → ∀ m, (m = if rs[k] = 10 then n + 1 else n) → WN rs (A ++ [rs[k]]) (k + 1) m) := fun h m hm => HWN.out.keep hlt h m hm
      have HSK : Hid (rs[k] = 13 → ends rs k → WN rs A (k + 1) n) := fun h1 h2 => HWN.out.skip hlt h1 h2
      have HY : Hid (∀ h : k + 1 < rs.length, rs[k + 1]? = some rs[k + 1]) := fun h => List.getElem?_eq_getElem h
      have hy1 : ∀ h : k + 1 < rs.length, wr.cell? ⟨R, k + 1, none⟩ = some (.int .i32 rs[k + 1]) := fun h => by rw [HB.out.cell hR4]; exact HRR.out (k + 1) h
      have k1 : IntKind.i64.wrap ((k : Int) + 1) = (k : Int) + 1 := by rw [IntKind.wrap_i64]; omega
      have k2 : IntKind.i64.wrap ((n : Int) + 1) = (n : Int) + 1 := by rw [IntKind.wrap_i64]; omega
      generalize hx : rs[k] = x at *
      clear hx
      by_cases h13 : x = 13
      · have e13 : (x == 13) = true := by simp [h13]
        have e10 : (x == 10) = false := by simp [h13]
        have h10x : ¬ x = 10 := by omega
        by_cases hend : k + 1 = rs.length
        · have HK : Hid (WN rs A (k + 1) n) := HSK.out h13 (.inl hend)
          have eE : (((k : Int) + 1) == (rs.length : Int)) = true := by simp; omega
          clear HNE0 HSK HY hy1 h13 hend h10x
          go_wp2_with fail
          go_roundw
          case rel => exact ⟨k + 1, n, A, g, cp, hlt, by go_num, rfl, rfl, HOWN.out, HB.out, HK.out⟩
          case measure => simp [intOf]; omega
        · have hlt2 : k + 1 < rs.length := by omega
          have hy2 := hy1 hlt2
          have HY3 : Hid (rs[k + 1]? = some rs[k + 1]) := HY.out hlt2
          clear hy1 HY
          generalize rs[k + 1] = y at *
          have eE : (((k : Int) + 1) == (rs.length : Int)) = false := by simp; omega
          have l1 : (0 : Int) ≤ (k : Int) + 1 := by omega
          have l2 : (k : Int) + 1 < (rs.length : Int) := by omega
          have l3 : ((k : Int) + 1).toNat = k + 1 := by omega
          by_cases h10 : y = 10
          · have ey : (y == 10) = true := by simp [h10]
            have HK : Hid (WN rs A (k + 1) n) := HSK.out h13 (.inr (by rw [HY3.out, h10]))
            clear HNE0 HSK h13 hend h10x h10 HY3
            go_wp2_with fail
            go_roundw
            case rel => exact ⟨k + 1, n, A, g, cp, hlt, by go_num, rfl, rfl, HOWN.out, HB.out, HK.out⟩
            case measure => simp [intOf]; omega
          · have ey : (y == 10) = false := by simp [h10]
            have HK : Hid (WN rs (A ++ [x]) (k + 1) n) := HNE0.out (fun h => by
              rcases h.2 with h | h
              · exact hend h
              · rw [HY3.out] at h; exact h10 (Option.some.inj h)) n (by rw [if_neg h10x])
            clear HNE0 HSK h13 hend h10x h10 HY3
            go_wp2_with (at_builtin; refine wpList_append_lies _ rfl (.tmp 65) (.tmp 70) _ rfl w4.heap.size 21 i0 _ 1 4 Try.underlying27 hi hz0 hz1 hz2 rfl (by omega) _ A.length (A.map (Value.int .i32)) rfl (HOWN.out.alloc _) ⟨wr.heap.size, 0, none⟩ 1 1 [.int .i32 x] rfl rfl (World.news_of_block (cs := #[.int .i32 x]) (t := 21) (fr := (0, 0)) (heap_alloc_new wr _)) (by simp [Value.oneCell']) (by omega) (by unfold maxLen; omega) (by omega) (by simp; omega) (wr.heap.size + 1) (by simp) ?_; intro g8 c8 w8 hown8 hgrow8 hat8 hlt8)
            go_roundw
            case rel => exact want_push HOWN.out HB.out hown8 hgrow8 hlt HK.out (by go_num) rfl
            case measure => simp [intOf]; omega
      · have e13 : (x == 13) = false := by simp [h13]
        by_cases h10 : x = 10
        · have e10 : (x == 10) = true := by simp [h10]
          have HK : Hid (WN rs (A ++ [x]) (k + 1) (n + 1)) := HNE0.out (fun h => h13 h.1) (n + 1) (by rw [if_pos h10])
          clear HNE0 HSK HY hy1 h13 h10
          go_wp2_with (at_builtin; refine wpList_append_lies _ rfl (.tmp 65) (.tmp 70) _ rfl w4.heap.size 21 i0 _ 1 4 Try.underlying27 hi hz0 hz1 hz2 rfl (by omega) _ A.length (A.map (Value.int .i32)) rfl (HOWN.out.alloc _) ⟨wr.heap.size, 0, none⟩ 1 1 [.int .i32 x] rfl rfl (World.news_of_block (cs := #[.int .i32 x]) (t := 21) (fr := (0, 0)) (heap_alloc_new wr _)) (by simp [Value.oneCell']) (by omega) (by unfold maxLen; omega) (by omega) (by simp; omega) (wr.heap.size + 1) (by simp) ?_; intro g8 c8 w8 hown8 hgrow8 hat8 hlt8)
          go_roundw
          case rel => exact want_push HOWN.out HB.out hown8 hgrow8 hlt HK.out (by go_num) (by go_num)
          case measure => simp [intOf]; omega
        · have e10 : (x == 10) = false := by simp [h10]
          have HK : Hid (WN rs (A ++ [x]) (k + 1) n) := HNE0.out (fun h => h13 h.1) n (by rw [if_neg h10])
          clear HNE0 HSK HY hy1 h13 h10
          go_wp2_with (at_builtin; refine wpList_append_lies _ rfl (.tmp 65) (.tmp 70) _ rfl w4.heap.size 21 i0 _ 1 4 Try.underlying27 hi hz0 hz1 hz2 rfl (by omega) _ A.length (A.map (Value.int .i32)) rfl (HOWN.out.alloc _) ⟨wr.heap.size, 0, none⟩ 1 1 [.int .i32 x] rfl rfl (World.news_of_block (cs := #[.int .i32 x]) (t := 21) (fr := (0, 0)) (heap_alloc_new wr _)) (by simp [Value.oneCell']) (by omega) (by unfold maxLen; omega) (by omega) (by simp; omega) (wr.heap.size + 1) (by simp) ?_; intro g8 c8 w8 hown8 hgrow8 hat8 hlt8)
          go_roundw
          case rel => exact want_push HOWN.out HB.out hown8 hgrow8 hlt HK.out (by go_num) rfl
          case measure => simp [intOf]; omega
    · obtain ⟨hA2, hn2⟩ := HWN.out.fin hlt
      have HJ : Hid (jn L = A) := HJN.out.trans hA2.symm
      have eL : ((L.length : Int) != (n : Int) + 1) = false := by have := HLL.out; simp; omega
      have k2 : IntKind.i64.wrap ((n : Int) + 1) = (n : Int) + 1 := by rw [IntKind.wrap_i64]; omega
      have hL1 : 1 ≤ L.length := by have := HLL.out; omega
      have HWC : Hid (∀ m (h : m < A.length), wr.cell? ⟨g, m, none⟩ = some (.int .i32 A[m])) := fun m h => row_runes HOWN.out m h
      have HLINr : Hid (∀ j (h : j < L.length), ∃ a c, wr.cell? ⟨S, j, none⟩ = some (.slice a L[j].length c) ∧ Runes wr a L[j]) := fun j h => by
        obtain ⟨a, c, h1, h2⟩ := HLIN.out j h
        exact ⟨a, c, by rw [HB.out.cell hS]; exact h1, h2.below HB.out⟩
      have br : Below w'.heap.size w' wr := b4.trans (HB.out.mono b4.size)
      have HLE : Hid (∀ y ∈ L, y.length ≤ 65536) := fun y hy => by have := jn_mem_le L y hy; rw [HJ.out] at this; omega
      have hA3 : A.length ≤ 65536 := by omega
      clear HJN HLL HWN HOWN HLIN HRR hA2 hn2 HB hsz b4
      obtain ⟨wo, rfl⟩ : ∃ wo : World, wo = wr := ⟨_, rfl⟩
      go_wp2_with fail
      go_loopw [10] (fun j wq => ∃ (m q : Nat), m ≤ L.length ∧ j = .int .i64 m ∧ wq = wo.drewN q) (fun j _ => L.length - (intOf j).toNat)
      case atStart => exact ⟨0, 0, Nat.zero_le _, rfl, rfl⟩
      case round =>
        obtain ⟨m, q, hm, rfl, hwq⟩ := hrel
        have HWQ : Hid (wr = wo.drewN q) := hwq
        clear hwq
        by_cases hml : m < L.length
        · obtain ⟨a, cc, hc1, hru⟩ := HLINr.out m hml
          have HRU : Hid (Runes wr a L[m]) := by rw [HWQ.out]; exact runes_drewN hru _
          have hlb := HLE.out L[m] (List.getElem_mem _)
          have hc2 : wr.cell? ⟨S, m, none⟩ = some (.slice a L[m].length cc) := by rw [HWQ.out]; simpa using hc1
          clear hru hc1
          generalize L[m] = l at *
          have m0 : (0 : Int) ≤ (m : Int) := by omega
          have m1 : (m : Int) < (L.length : Int) := by omega
          go_wp2_with fail
          go_quiet ((go_at_call 8; exact Calls.quiet_of (same_any a a cc cc l _ (runes_drewN HRU.out _) (runes_drewN HRU.out _) (by omega))))
          go_wp2
          go_roundw
          case rel => exact ⟨m + 1, _, hml, by go_num, by rw [HWQ.out, World.drewN_drewN]⟩
          case measure => simp [intOf]; omega
        · have HWC7 : Hid (∀ m (h : m < A.length), wr.cell? ⟨g, m, none⟩ = some (.int .i32 A[m])) := fun m h => by rw [HWQ.out]; simpa using HWC.out m h
          have HLIN7 : Hid (∀ j (h : j < L.length), ∃ a c, wr.cell? ⟨S, j, none⟩ = some (.slice a L[j].length c) ∧ Runes wr a L[j]) := fun j h => by
            obtain ⟨a, c, h1, h2⟩ := HLINr.out j h
            exact ⟨a, c, by rw [HWQ.out]; simpa using h1, by rw [HWQ.out]; exact runes_drewN h2 _⟩
          have b7 : Below w'.heap.size w' wr := by rw [HWQ.out]; exact bel_drewN br _
          clear HWC HLINr br HWQ
          obtain ⟨wp, rfl⟩ : ∃ wp : World, wp = wr := ⟨_, rfl⟩
          go_wp2_with fail
          go_loopw [11, 12] (fun kv jv wq => ∃ (K J q : Nat), K ≤ A.length ∧ J ≤ L.length ∧ kv = .int .i64 K ∧ jv = .int .i64 J ∧ wq = wp.drewN q ∧ A.drop K = rest L J) (fun _ j _ => L.length - (intOf j).toNat)
          case atStart => exact ⟨0, 0, 0, Nat.zero_le _, Nat.zero_le _, rfl, rfl, rfl, by rw [rest_zero]; simpa using HJ.out.symm⟩
          case round =>
            obtain ⟨K, J, q, hK, hJ, rfl, rfl, hwq, hdr⟩ := hrel
            have HWQ : Hid (wr = wp.drewN q) := hwq
            have HDR : Hid (A.drop K = rest L J) := hdr
            clear hwq hdr
            by_cases hJl : J < L.length
            · obtain ⟨a, cc, hc1, hru⟩ := HLIN7.out J hJl
              have hc2 : wr.cell? ⟨S, J, none⟩ = some (.slice a L[J].length cc) := by rw [HWQ.out]; simpa using hc1
              have HRU : Hid (Runes wp a L[J]) := hru
              have HNL : Hid (∀ x ∈ L[J], x ≠ 10) := fun x hx => HNO.out L[J] (List.getElem_mem _) x hx
              have HRL : Hid (jn (L.drop J) = L[J] ++ rest L (J + 1)) := rest_line L J hJl
              have hlb := HLE.out L[J] (List.getElem_mem _)
              clear hc1 hru
              generalize L[J] = l at *
              obtain ⟨tl, htl⟩ : ∃ tl, tl = rest L (J + 1) := ⟨_, rfl⟩
              have HTL : Hid (tl = rest L (J + 1)) := htl
              clear htl
              have j0 : (0 : Int) ≤ (J : Int) := by omega
              have j1 : (J : Int) < (L.length : Int) := by omega
              by_cases hJ0 : J = 0
              · have HDS : Hid (A.drop K = l ++ tl) := by
                  have := HDR.out
                  rw [HTL.out, ← HRL.out, this]; subst hJ0; exact rest_zero L
                have eJ : decide (0 < J) = false := by simp; omega
                clear hJ0 HDR HRL
                go_wp2_with fail
                go_loopw [11, 14] (fun kv mv wq => ∃ (K M q : Nat), K ≤ A.length ∧ M ≤ l.length ∧ kv = .int .i64 K ∧ mv = .int .i64 M ∧ wq = wp.drewN q ∧ A.drop K = l.drop M ++ tl) (fun _ m _ => l.length - (intOf m).toNat)
                case atStart => exact ⟨K, 0, q, hK, Nat.zero_le _, rfl, rfl, HWQ.out, by simpa using HDS.out⟩
                case round =>
                  clear HWQ HDS hc2
                  obtain ⟨K2, M, q2, hK2, hM, rfl, rfl, hwq, hdr⟩ := hrel
                  have HWQ : Hid (wr = wp.drewN q2) := hwq
                  have HDR2 : Hid (A.drop K2 = l.drop M ++ tl) := hdr
                  clear hwq hdr
                  by_cases hMl : M < l.length
                  · have hdm : l.drop M = l[M] :: l.drop (M + 1) := List.drop_eq_getElem_cons hMl
                    obtain ⟨hKA, hAx, hAd⟩ := read_one (by rw [HDR2.out, hdm]; rfl : A.drop K2 = l[M] :: (l.drop (M + 1) ++ tl))
                    have HAD : Hid (A.drop (K2 + 1) = l.drop (M + 1) ++ tl) := hAd
                    have hnx := HNL.out l[M] (List.getElem_mem _)
                    obtain ⟨R2, o2, ha, hR2, hcl⟩ := HRU.out (by omega)
                    have hX : wr.cell? ⟨R2, o2 + M, none⟩ = some (.int .i32 l[M]) := by rw [HWQ.out]; simpa using hcl M hMl
                    have hY : wr.cell? ⟨g, K2, none⟩ = some (.int .i32 l[M]) := by rw [HWQ.out, ← hAx]; simpa using HWC7.out K2 hKA
                    clear hdm hAx hAd hcl hR2
                    generalize l[M] = x at *
                    have e10 : (x == 10) = false := by simp [hnx]
                    have n0 : (0 : Int) ≤ (K2 : Int) := by omega
                    have n1 : (K2 : Int) < (A.length : Int) := by omega
                    have n2 : decide ((A.length : Int) ≤ (K2 : Int)) = false := by simp; omega
                    have n3 : (0 : Int) ≤ (M : Int) := by omega
                    have n4 : (M : Int) < (l.length : Int) := by omega
                    have n5 : (x != x) = false := by simp
                    clear hnx
                    go_wp2_with fail
                    go_quiet (fail)
                    go_wp2
                    rw [← ha]
                    go_roundw
                    case rel => exact ⟨K2 + 1, M + 1, _, hKA, hMl, by go_num, by go_num, by rw [HWQ.out, World.drewN_drewN], HAD.out⟩
                    case measure => simp [intOf]; omega
                  · have HDE : Hid (A.drop K2 = rest L (J + 1)) := by
                      show A.drop K2 = rest L (J + 1)
                      rw [HDR2.out, ← HTL.out, show l.drop M = [] from List.drop_eq_nil_of_le (by omega)]; rfl
                    go_wp2_with fail
                    go_roundw
                    case rel => exact ⟨K2, J + 1, _, hK2, hJl, by go_num, by go_num, HWQ.out, HDE.out⟩
                    case measure => simp [intOf]; omega
              · have hrp := rest_pos L J (by omega) hJl
                rw [HRL.out, ← HTL.out, ← HDR.out] at hrp
                obtain ⟨hKA, hAx, hAd⟩ := read_one hrp
                have HDS : Hid (A.drop (K + 1) = l ++ tl) := hAd
                have hY : wr.cell? ⟨g, K, none⟩ = some (.int .i32 10) := by rw [HWQ.out, ← hAx]; simpa using HWC7.out K hKA
                have eJ : 0 < J := by omega
                have n0 : (0 : Int) ≤ (K : Int) := by omega
                have n1 : (K : Int) < (A.length : Int) := by omega
                have n2 : decide (A.length ≤ K) = false := by simp; omega
                clear hJ0 HDR HRL hrp hAx hAd
                go_wp2_with fail
                have HKA : Hid (K < A.length) := hKA
                clear hKA n0 n1 n2 hY
                go_loopw [11, 14] (fun kv mv wq => ∃ (K M q : Nat), K ≤ A.length ∧ M ≤ l.length ∧ kv = .int .i64 K ∧ mv = .int .i64 M ∧ wq = wp.drewN q ∧ A.drop K = l.drop M ++ tl) (fun _ m _ => l.length - (intOf m).toNat)
                case atStart => exact ⟨K + 1, 0, q, HKA.out, Nat.zero_le _, (by go_num), rfl, HWQ.out, by simpa using HDS.out⟩
                case round =>
                  clear HWQ HDS hc2
                  obtain ⟨K2, M, q2, hK2, hM, rfl, rfl, hwq, hdr⟩ := hrel
                  have HWQ : Hid (wr = wp.drewN q2) := hwq
                  have HDR2 : Hid (A.drop K2 = l.drop M ++ tl) := hdr
                  clear hwq hdr
                  by_cases hMl : M < l.length
                  · have hdm : l.drop M = l[M] :: l.drop (M + 1) := List.drop_eq_getElem_cons hMl
                    obtain ⟨hKA, hAx, hAd⟩ := read_one (by rw [HDR2.out, hdm]; rfl : A.drop K2 = l[M] :: (l.drop (M + 1) ++ tl))
                    have HAD : Hid (A.drop (K2 + 1) = l.drop (M + 1) ++ tl) := hAd
                    have hnx := HNL.out l[M] (List.getElem_mem _)
                    obtain ⟨R2, o2, ha, hR2, hcl⟩ := HRU.out (by omega)
                    have hX : wr.cell? ⟨R2, o2 + M, none⟩ = some (.int .i32 l[M]) := by rw [HWQ.out]; simpa using hcl M hMl
                    have hY : wr.cell? ⟨g, K2, none⟩ = some (.int .i32 l[M]) := by rw [HWQ.out, ← hAx]; simpa using HWC7.out K2 hKA
                    clear hdm hAx hAd hcl hR2
                    generalize l[M] = x at *
                    have e10 : (x == 10) = false := by simp [hnx]
                    have n0 : (0 : Int) ≤ (K2 : Int) := by omega
                    have n1 : (K2 : Int) < (A.length : Int) := by omega
                    have n2 : decide ((A.length : Int) ≤ (K2 : Int)) = false := by simp; omega
                    have n3 : (0 : Int) ≤ (M : Int) := by omega
                    have n4 : (M : Int) < (l.length : Int) := by omega
                    have n5 : (x != x) = false := by simp
                    clear hnx
                    go_wp2_with fail
                    go_quiet (fail)
                    go_wp2
                    rw [← ha]
                    go_roundw
                    case rel => exact ⟨K2 + 1, M + 1, _, hKA, hMl, by go_num, by go_num, by rw [HWQ.out, World.drewN_drewN], HAD.out⟩
                    case measure => simp [intOf]; omega
                  · have HDE : Hid (A.drop K2 = rest L (J + 1)) := by
                      show A.drop K2 = rest L (J + 1)
                      rw [HDR2.out, ← HTL.out, show l.drop M = [] from List.drop_eq_nil_of_le (by omega)]; rfl
                    go_wp2_with fail
                    go_roundw
                    case rel => exact ⟨K2, J + 1, _, hK2, hJl, by go_num, by go_num, HWQ.out, HDE.out⟩
                    case measure => simp [intOf]; omega
            · have hKA : K = A.length := by
                have := HDR.out
                rw [rest_end L J (by omega) hJl, List.drop_eq_nil_iff] at this
                omega
              have eK : ((K : Int) == (A.length : Int)) = true := by simp; omega
              clear hKA
              go_wp2_with fail
              go_ret
              exact ⟨rfl, by rw [HWQ.out]; exact bel_drewN b7 _⟩
end Go.Proofs.Qxb6608979a
