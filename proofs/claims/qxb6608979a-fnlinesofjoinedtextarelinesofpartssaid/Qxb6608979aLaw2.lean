/-
  LAW 2, THE WALK.
-/
import Derived.Test.Qxb6608979aLines
import Derived.Test.Qxb6608979aSeam
namespace Go.Proofs.Qxb6608979a
open Go.RowKit

theorem bytes9_any (a b : ByteArray) (w : World) (hs : a.size + b.size ≤ 1048576) :
    Calls Try.prog 9 #[.string a, .string b] w fun e w' => e = .returned (.bool true) ∧ w' = w := by
  have k1 : IntKind.i64.wrap ((a.size : Int) + (b.size : Int)) = (a.size : Int) + (b.size : Int) := by rw [IntKind.wrap_i64]; omega
  go_enter Try.func9, Try.ntmps9
  go_wp2
  go_ret
  exact ⟨rfl, rfl⟩
theorem bytes9_big (a b : ByteArray) (w : World) (hs : ¬ a.size + b.size ≤ 1048576) (ha : a.size ≤ maxLen) (hb : b.size ≤ maxLen) :
    Calls Try.prog 9 #[.string a, .string b] w fun e w' => e = .returned (.bool false) ∧ w' = w := by
  unfold maxLen at ha hb
  by_cases h1 : a.size ≤ 1048576
  · by_cases h2 : b.size ≤ 1048576
    · have k1 : IntKind.i64.wrap ((a.size : Int) + (b.size : Int)) = (a.size : Int) + (b.size : Int) := by rw [IntKind.wrap_i64]; omega
      have k2 : (1048576 : Int) < (a.size : Int) + (b.size : Int) := by omega
      go_enter Try.func9, Try.ntmps9
      go_wp2
      go_ret
      exact ⟨rfl, rfl⟩
    · go_enter Try.func9, Try.ntmps9
      go_wp2
      go_ret
      exact ⟨rfl, rfl⟩
  · go_enter Try.func9, Try.ntmps9
    go_wp2
    go_ret
    exact ⟨rfl, rfl⟩

theorem count_drop (l : List UInt8) (k : Nat) (h : k < l.length) : (l.drop k).count 10 = (l.drop (k + 1)).count 10 + if l[k] = 10 then 1 else 0 := by
  rw [List.drop_eq_getElem_cons h, List.count_cons]
  simp

/-- How many newlines. -/
def nlc (s : ByteArray) : Nat := s.data.toList.count 10

set_option maxRecDepth 100000 in
theorem zzCount_any (s : ByteArray) (w : World) (hs : s.size ≤ 1048576) :
    Calls Try.prog 10 #[.string s] w fun e w' => e = .returned (.int .i64 (nlc s)) ∧ w' = w := by
  have hsl : s.data.toList.length = s.size := by rw [bsz]
  have HSL : Hid (s.data.toList.length = s.size) := hsl
  clear hsl
  go_enter Try.func10, Try.ntmps10
  go_wp2_with fail
  go_loop [3, 4] (fun n i => ∃ (k m : Nat), k ≤ s.size ∧ i = .int .i64 k ∧ n = .int .i64 m ∧ m ≤ k ∧ m + (s.data.toList.drop k).count 10 = nlc s) (fun _ i => s.size - (intOf i).toNat)
  case atStart => exact ⟨0, 0, Nat.zero_le _, rfl, rfl, Nat.le_refl _, by simp [nlc]⟩
  case round =>
    obtain ⟨k, m, hk, rfl, rfl, hm, hc⟩ := hrel
    have HC : Hid (m + (s.data.toList.drop k).count 10 = nlc s) := hc
    clear hc
    by_cases hlt : k < s.size
    · have HD : Hid ((s.data.toList.drop k).count 10 = (s.data.toList.drop (k + 1)).count 10 + if s[k] = 10 then 1 else 0) := by
        have := count_drop s.data.toList k (by have := HSL.out; omega)
        exact this
      have hx : s[k] = 10 ∨ s[k] ≠ 10 := Decidable.em _
      rcases hx with hx | hx
      · have e10 : ((s[k].toNat : Int) == 10) = true := by rw [hx]; decide
        have HD2 : Hid (m + 1 + (s.data.toList.drop (k + 1)).count 10 = nlc s) := by
          have h1 := HD.out; have h2 := HC.out; rw [if_pos hx] at h1; show _ = _; omega
        clear hx HD HC
        go_wp2
        go_round
        case rel => exact ⟨k + 1, m + 1, hlt, by go_num, by go_num, by omega, HD2.out⟩
        case measure => simp [intOf]; omega
      · have e10 : ((s[k].toNat : Int) == 10) = false := by
          rw [beq_eq_false_iff_ne]; intro e; exact hx (UInt8.toNat_inj.1 (by simpa using Int.ofNat.inj e))
        have HD2 : Hid (m + (s.data.toList.drop (k + 1)).count 10 = nlc s) := by
          have h1 := HD.out; have h2 := HC.out; rw [if_neg hx] at h1; show _ = _; omega
        clear hx HD HC
        go_wp2
        go_round
        case rel => exact ⟨k + 1, m, hlt, by go_num, rfl, by omega, HD2.out⟩
        case measure => simp [intOf]; omega
    · have HE : Hid (m = nlc s) := by
        have := HC.out
        rw [show s.data.toList.drop k = [] from List.drop_eq_nil_of_le (by have := HSL.out; omega)] at this
        exact this
      go_wp2
      go_ret
      exact ⟨by rw [HE.out]; rfl, rfl⟩

theorem wl_len : ∀ l : List Int, (wl l).length ≤ l.length
  | [] => by simp [wl]
  | c :: l => by
    have := wl_len l
    simp only [wl]
    split <;> simp <;> omega
theorem jn_mem : ∀ (L : List (List Int)) (y : List Int), y ∈ L → y.length ≤ (jn L).length
  | [], y, h => by simp at h
  | [z], y, h => by simp at h; subst h; simp [jn]
  | z :: u :: L, y, h => by
    rw [jn_cons _ _ (by simp)]
    rcases List.mem_cons.1 h with rfl | h
    · simp
    · have := jn_mem (u :: L) y h
      simp; omega
theorem line_le (s : ByteArray) (y : List Int) (h : y ∈ lns (rn s)) : y.length ≤ s.size := by
  have h1 := jn_mem _ y h
  rw [jn_lns] at h1
  have h2 := wl_len (rn s)
  have h3 := rn_len s
  omega
theorem runesD {W : World} {a : Option Addr} {l : List Int} (h : Runes W a l) (q : Nat) : Runes (W.drewN q) a l := fun hl => by
  obtain ⟨R, o, rfl, hR, hc⟩ := h hl
  exact ⟨R, o, rfl, by simpa using hR, fun m hm => by simpa using hc m hm⟩
theorem belD {B : Nat} {a w : World} (h : Below B a w) (q : Nat) : Below B a (w.drewN q) := ⟨h.os, h.tape, h.output, h.size, h.block⟩

/-- The same line, in two rows. -/
def Twin (W : World) (S i T j : Nat) : Prop := ∃ l a c b d, l.length ≤ 1048576 ∧ W.cell? ⟨S, i, none⟩ = some (.slice a l.length c) ∧ W.cell? ⟨T, j, none⟩ = some (.slice b l.length d) ∧ Runes W a l ∧ Runes W b l

theorem twin_of {W : World} {S i T j : Nat} {L M : List (List Int)} (hS : ∀ j (h : j < L.length), ∃ a c, W.cell? ⟨S, j, none⟩ = some (.slice a L[j].length c) ∧ Runes W a L[j])
    (hT : ∀ j (h : j < M.length), ∃ a c, W.cell? ⟨T, j, none⟩ = some (.slice a M[j].length c) ∧ Runes W a M[j]) (hi : i < L.length) (hj : j < M.length) (he : L[i] = M[j]) (hl : M[j].length ≤ 1048576) : Twin W S i T j := by
  obtain ⟨a, c, h1, h2⟩ := hS i hi
  obtain ⟨b, d, h3, h4⟩ := hT j hj
  rw [he] at h1 h2
  exact ⟨M[j], a, c, b, d, hl, h1, h3, h2, h4⟩

theorem newText_at (s : ByteArray) (w : World) :
    Calls Try.prog 6 #[.string s] w fun e w' => e = .returned (.pointer (some ⟨w.heap.size, 0, none⟩)) ∧ Txt w.heap.size (.string s) (.slice none 0 0) 0 0 w' ∧ Below w.heap.size w w' :=
  (newText_any s w).mono fun _ _ ⟨he, hw⟩ => ⟨he, by rw [hw]; exact heap_alloc_new w _, by rw [hw]; exact (Below.refl _ _).alloc (Nat.le_refl _) _⟩

set_option maxHeartbeats 4000000 in
set_option maxRecDepth 100000 in
theorem law2_main (hclo : CloHolds) (a b : ByteArray) (w : World) (ha : a.size ≤ 65536) (hb : b.size ≤ 65536) :
    Calls Try.prog 4 #[.string a, .string b] w fun e w' => e = .returned (.bool true) ∧ Below w.heap.size w w' := by
  have HCLO : Hid CloHolds := hclo
  clear hclo
  have hca : nlc a ≤ a.size := by unfold nlc; have := List.count_le_length (a := (10 : UInt8)) (l := a.data.toList); rw [bsz]; exact this
  have hcb : nlc b ≤ b.size := by unfold nlc; have := List.count_le_length (a := (10 : UInt8)) (l := b.data.toList); rw [bsz]; exact this
  have HLa : Hid ((lns (rn a)).length = nlc a + 1) := by show _ = _; rw [lns_len, rn_count]; rfl
  have HLb : Hid ((lns (rn b)).length = nlc b + 1) := by show _ = _; rw [lns_len, rn_count]; rfl
  go_enter Try.func4, Try.ntmps4
  go_wp2_with fail
  refine (bytes9_any a b _ (by omega)).mono ?_
  rintro e w' ⟨rfl, rfl⟩
  go_wp2_with fail
  refine (zzCount_any a _ (by omega)).mono ?_
  rintro e w1 ⟨rfl, rfl⟩
  go_wp2_with fail
  refine (zzCount_any b _ (by omega)).mono ?_
  rintro e w1 ⟨rfl, rfl⟩
  generalize nlc a = ca at *
  generalize nlc b = cb at *
  go_wp2_with fail
  have hzl : (a ++ ⟨#[10]⟩ ++ b).data.toList = a.data.toList ++ 10 :: b.data.toList := by simp
  have hzs : (a ++ ⟨#[10]⟩ ++ b).size ≤ 131073 := by
    rw [bsz, hzl]
    have h1 := bsz a
    have h2 := bsz b
    simp only [List.length_append, List.length_cons]
    omega
  have HZ : Hid (lns (rn (a ++ ⟨#[10]⟩ ++ b)) = lns (rn a) ++ lns (rn b)) := by
    show _ = _
    rw [rn_seam a b _ hzl, lns_seam]
  have HLE : Hid ((∀ y ∈ lns (rn a), y.length ≤ 1048576) ∧ ∀ y ∈ lns (rn b), y.length ≤ 1048576) :=
    ⟨fun y hy => by have := line_le a y hy; omega, fun y hy => by have := line_le b y hy; omega⟩
  clear hzl
  refine (newText_at _ _).mono ?_
  rintro e w2 ⟨rfl, ht2, b2⟩
  have HT2 : Hid (Txt w1.heap.size (.string (a ++ ⟨#[10]⟩ ++ b)) (.slice none 0 0) 0 0 w2) := ht2
  clear ht2
  go_wp2_with fail
  refine (lines_first HCLO.out w1.heap.size _ w2 HT2.out (by omega)).mono ?_
  rintro e w3 ⟨v0, rfl, hla0, _, hb3⟩
  have b3 := b2.trans hb3
  rw [HZ.out] at hla0
  have HA0 : Hid (LinesAt w3 v0 (lns (rn a) ++ lns (rn b))) := hla0
  clear hla0 hb3 b2 HT2 HZ hzs
  go_wp2_with fail
  refine (newText_at _ _).mono ?_
  rintro e w4 ⟨rfl, ht4, hb4⟩
  have HT4 : Hid (Txt w3.heap.size (.string a) (.slice none 0 0) 0 0 w4) := ht4
  clear ht4
  go_wp2_with fail
  refine (lines_first HCLO.out w3.heap.size _ w4 HT4.out (by omega)).mono ?_
  rintro e w5 ⟨v1, rfl, hla1, _, hb5⟩
  have hb35 := hb4.trans hb5
  have b5 := b3.trans (hb35.mono b3.size)
  have HA1 : Hid (LinesAt w5 v0 (lns (rn a) ++ lns (rn b))) := HA0.out.below hb35
  have HB1 : Hid (LinesAt w5 v1 (lns (rn a))) := hla1
  clear hla1 hb4 hb5 hb35 b3 HT4 HA0
  go_wp2_with fail
  refine (newText_at _ _).mono ?_
  rintro e w6 ⟨rfl, ht6, hb6⟩
  have HT6 : Hid (Txt w5.heap.size (.string b) (.slice none 0 0) 0 0 w6) := ht6
  clear ht6
  go_wp2_with fail
  refine (lines_first HCLO.out w5.heap.size _ w6 HT6.out (by omega)).mono ?_
  rintro e w7 ⟨v2, rfl, hla2, _, hb7⟩
  have hb57 := hb6.trans hb7
  have b7 := b5.trans (hb57.mono b5.size)
  have HA2 : Hid (LinesAt w7 v0 (lns (rn a) ++ lns (rn b))) := HA1.out.below hb57
  have HB2 : Hid (LinesAt w7 v1 (lns (rn a))) := HB1.out.below hb57
  have HC2 : Hid (LinesAt w7 v2 (lns (rn b))) := hla2
  clear hla2 hb6 hb7 hb57 b5 HT6 HA1 HB1 HCLO
  generalize lns (rn a) = La at *
  generalize lns (rn b) = Lb at *
  obtain ⟨S0, cp0, rfl, hcp0, _, hl0⟩ := HA2.out
  obtain ⟨S1, cp1, rfl, hcp1, _, hl1⟩ := HB2.out
  obtain ⟨S2, cp2, rfl, hcp2, _, hl2⟩ := HC2.out
  have HP1 : Hid (∀ i, i < La.length → Twin w7 S0 i S1 i) := fun i h =>
    twin_of hl0 hl1 (by simp; omega) h (List.getElem_append_left h) (HLE.out.1 _ (List.getElem_mem _))
  have HP2 : Hid (∀ j, j < Lb.length → Twin w7 S0 (La.length + j) S2 j) := fun j h =>
    twin_of hl0 hl2 (by simp; omega) h (by rw [List.getElem_append_right (by omega)]; simp) (HLE.out.2 _ (List.getElem_mem _))
  clear hl0 hl1 hl2 HA2 HB2 HC2 HLE
  have HLZ : Hid ((La ++ Lb).length = La.length + Lb.length) := by show _ = _; simp
  generalize (La ++ Lb).length = nz at *
  generalize La.length = na at *
  generalize Lb.length = nb at *
  have e1 : ((na : Int) != (ca : Int) + 1) = false := by have := HLa.out; simp; omega
  have e2 : ((nb : Int) != (cb : Int) + 1) = false := by have := HLb.out; simp; omega
  have e3 : ((nz : Int) != (ca : Int) + (cb : Int) + 2) = false := by have := HLa.out; have := HLb.out; have := HLZ.out; simp; omega
  have k1 : IntKind.i64.wrap ((ca : Int) + 1) = (ca : Int) + 1 := by rw [IntKind.wrap_i64]; omega
  have k2 : IntKind.i64.wrap ((cb : Int) + 1) = (cb : Int) + 1 := by rw [IntKind.wrap_i64]; omega
  have k3 : IntKind.i64.wrap ((ca : Int) + (cb : Int)) = (ca : Int) + (cb : Int) := by rw [IntKind.wrap_i64]; omega
  have k4 : IntKind.i64.wrap ((ca : Int) + (cb : Int) + 2) = (ca : Int) + (cb : Int) + 2 := by rw [IntKind.wrap_i64]; omega
  have hna : na ≤ 65537 := by have := HLa.out; omega
  have hnb : nb ≤ 65537 := by have := HLb.out; omega
  go_wp2_with fail
  clear e1 e2 e3 k1 k2 k3 k4 HLa HLb
  go_loopw [10] (fun j wq => ∃ (m q : Nat), m ≤ na ∧ j = .int .i64 m ∧ wq = w7.drewN q) (fun j _ => na - (intOf j).toNat)
  case atStart => exact ⟨0, 0, Nat.zero_le _, rfl, rfl⟩
  case round =>
    obtain ⟨m, q, hm, rfl, hwq⟩ := hrel
    have HWQ : Hid (wr = w7.drewN q) := hwq
    clear hwq
    by_cases hml : m < na
    · obtain ⟨l, x, c, y, d, hlb, hc1, hc2, hr1, hr2⟩ := HP1.out m hml
      have hd1 : wr.cell? ⟨S0, m, none⟩ = some (.slice x l.length c) := by rw [HWQ.out]; simpa using hc1
      have hd2 : wr.cell? ⟨S1, m, none⟩ = some (.slice y l.length d) := by rw [HWQ.out]; simpa using hc2
      have HR1 : Hid (Runes wr x l) := by rw [HWQ.out]; exact runesD hr1 _
      have HR2 : Hid (Runes wr y l) := by rw [HWQ.out]; exact runesD hr2 _
      clear hc1 hc2 hr1 hr2
      have m0 : (0 : Int) ≤ (m : Int) := by omega
      have m1 : (m : Int) < (na : Int) := by omega
      have m2 : (m : Int) < (nz : Int) := by have := HLZ.out; omega
      go_wp2_with fail
      go_quiet ((go_at_call 8; exact Calls.quiet_of (same_any x y c d l _ (runesD HR1.out _) (runesD HR2.out _) (by omega))))
      go_wp2
      go_roundw
      case rel => exact ⟨m + 1, _, hml, by go_num, by rw [HWQ.out, World.drewN_drewN]⟩
      case measure => simp [intOf]; omega
    · obtain ⟨wp, hwp⟩ : ∃ wp : World, wp = wr := ⟨_, rfl⟩
      have HP3 : Hid (∀ j, j < nb → ∃ l x c y d, l.length ≤ 1048576 ∧ wp.cell? ⟨S0, na + j, none⟩ = some (.slice x l.length c) ∧ wp.cell? ⟨S2, j, none⟩ = some (.slice y l.length d) ∧ Runes wp x l ∧ Runes wp y l) := fun j h => by
        obtain ⟨l, x, c, y, d, hlb, hc1, hc2, hr1, hr2⟩ := HP2.out j h
        rw [hwp, HWQ.out]
        exact ⟨l, x, c, y, d, hlb, by simpa using hc1, by simpa using hc2, runesD hr1 _, runesD hr2 _⟩
      have b8 : Below w1.heap.size w1 wp := by rw [hwp, HWQ.out]; exact belD b7 _
      subst hwp
      clear HP1 HP2 HWQ b7
      go_wp2_with fail
      go_loopw [11] (fun j wq => ∃ (m q : Nat), m ≤ nb ∧ j = .int .i64 m ∧ wq = wp.drewN q) (fun j _ => nb - (intOf j).toNat)
      case atStart => exact ⟨0, 0, Nat.zero_le _, rfl, rfl⟩
      case round =>
        obtain ⟨j, q, hj, rfl, hwq⟩ := hrel
        have HWQ : Hid (wr = wp.drewN q) := hwq
        clear hwq
        by_cases hjl : j < nb
        · obtain ⟨l, x, c, y, d, hlb, hc1, hc2, hr1, hr2⟩ := HP3.out j hjl
          have hd1 : wr.cell? ⟨S0, na + j, none⟩ = some (.slice x l.length c) := by rw [HWQ.out]; simpa using hc1
          have hd2 : wr.cell? ⟨S2, j, none⟩ = some (.slice y l.length d) := by rw [HWQ.out]; simpa using hc2
          have HR1 : Hid (Runes wr x l) := by rw [HWQ.out]; exact runesD hr1 _
          have HR2 : Hid (Runes wr y l) := by rw [HWQ.out]; exact runesD hr2 _
          clear hc1 hc2 hr1 hr2
          have m0 : (0 : Int) ≤ (j : Int) := by omega
          have m1 : (j : Int) < (nb : Int) := by omega
          have p0 : IntKind.i64.wrap ((na : Int) + (j : Int)) = (na : Int) + (j : Int) := by rw [IntKind.wrap_i64]; omega
          have p1 : (0 : Int) ≤ (na : Int) + (j : Int) := by omega
          have p2 : (na : Int) + (j : Int) < (nz : Int) := by have := HLZ.out; omega
          have p3 : ((na : Int) + (j : Int)).toNat = na + j := by omega
          go_wp2_with fail
          go_quiet ((go_at_call 8; exact Calls.quiet_of (same_any x y c d l _ (runesD HR1.out _) (runesD HR2.out _) (by omega))))
          go_wp2
          go_roundw
          case rel => exact ⟨j + 1, _, hjl, by go_num, by rw [HWQ.out, World.drewN_drewN]⟩
          case measure => simp [intOf]; omega
        · go_wp2_with fail
          go_ret
          exact ⟨rfl, by rw [HWQ.out]; exact belD b8 _⟩

theorem law2_walk (hclo : CloHolds) (a b : ByteArray) (w0 : a.size ≤ maxLen) (w1 : b.size ≤ maxLen) (w : World) :
    Calls Try.prog 4 #[.string a, .string b] w fun e w' => e = .returned (.bool true) ∧ Below w.heap.size w w' := by
  by_cases h1 : a.size + b.size ≤ 1048576
  · by_cases h2 : a.size ≤ 65536
    · by_cases h3 : b.size ≤ 65536
      · exact law2_main hclo a b w h2 h3
      · clear hclo
        go_enter Try.func4, Try.ntmps4
        go_wp2_with fail
        refine (bytes9_any a b _ h1).mono ?_
        rintro e w' ⟨rfl, rfl⟩
        go_wp2
        go_ret
        exact ⟨rfl, Below.refl _ _⟩
    · clear hclo
      go_enter Try.func4, Try.ntmps4
      go_wp2_with fail
      refine (bytes9_any a b _ h1).mono ?_
      rintro e w' ⟨rfl, rfl⟩
      go_wp2
      go_ret
      exact ⟨rfl, Below.refl _ _⟩
  · clear hclo
    go_enter Try.func4, Try.ntmps4
    go_wp2_with fail
    refine (bytes9_big a b _ h1 w0 w1).mono ?_
    rintro e w' ⟨rfl, rfl⟩
    go_wp2
    go_ret
    exact ⟨rfl, Below.refl _ _⟩
end Go.Proofs.Qxb6608979a
