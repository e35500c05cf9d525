/-
  THE WALKS of pdHexVal and pdModel: the piece model computes 'Pd.go' too.
-/
import Derived.Test.Qxb6606103aEnc
import Derived.Test.Qxb6606103aDec
namespace Go.Proofs.Qxb6606103a
open Go.RowKit

/-- pdHexVal's table. -/
def tabl : List UInt8 := [48, 49, 50, 51, 52, 53, 54, 55, 56, 57, 97, 98, 99, 100, 101, 102, 65, 66, 67, 68, 69, 70]
def tab (k : Nat) : UInt8 := tabl.getD k 0

/-- A hex digit's value, -1 for none. -/
def hexM (c : UInt8) : Int := if (Pd.hexN c).2 = true then ((Pd.hexN c).1 : Int) else -1

theorem hexM_found_all : ∀ k : Fin 22, hexM (tab k.val) = if k.val < 16 then (k.val : Int) else (k.val : Int) - 6 := by decide +kernel
theorem hexM_none_all : ∀ n : Fin 256, (∀ j : Fin 22, tab j.val ≠ UInt8.ofNat n.val) → hexM (UInt8.ofNat n.val) = -1 := by decide +kernel

theorem hexM_found {c : UInt8} {k : Nat} (hk : k < 22) (h : tab k = c) : hexM c = if k < 16 then (k : Int) else (k : Int) - 6 := by
  subst h; exact hexM_found_all ⟨k, hk⟩
theorem hexM_none {c : UInt8} (h : ∀ j, j < 22 → tab j ≠ c) : hexM c = -1 := by
  have := hexM_none_all ⟨c.toNat, c.toNat_lt⟩
  simp only [UInt8.ofNat_toNat] at this
  exact this fun j => h j.val j.isLt

theorem tab_run (k : Nat) (hk : k < 22) (w : World) :
    (Instr.index 9 (.string ⟨#[48, 49, 50, 51, 52, 53, 54, 55, 56, 57, 97, 98, 99, 100, 101, 102, 65, 66, 67, 68, 69, 70]⟩) (.int .i64 (k : Int))).run Try.prog w = .ok (.int .u8 ((tab k).toNat : Int)) w := by
  have key : ∀ j : Fin 22, (⟨#[48, 49, 50, 51, 52, 53, 54, 55, 56, 57, 97, 98, 99, 100, 101, 102, 65, 66, 67, 68, 69, 70]⟩ : ByteArray)[j.val]'(j.isLt) = tab j.val := by decide +kernel
  have h22 : (⟨#[48, 49, 50, 51, 52, 53, 54, 55, 56, 57, 97, 98, 99, 100, 101, 102, 65, 66, 67, 68, 69, 70]⟩ : ByteArray).size = 22 := rfl
  rw [run_index_string (P := Try.prog) w 9 _ .i64 (k : Int) Try.underlying9, dif_pos (by rw [h22]; omega)]
  have e := key ⟨k, hk⟩
  simp only [Int.toNat_natCast]
  rw [← e]

set_option maxHeartbeats 400000 in
set_option maxRecDepth 100000 in
theorem pdHexVal_any (c : UInt8) (w : World) :
    Calls Try.prog 13 #[.int .u8 (c.toNat : Int)] w fun e w' => e = .returned (.int .i64 (hexM c)) ∧ w' = w := by
  generalize hX : hexM c = X
  have HX : Hid (hexM c = X) := hX
  clear hX
  go_enter Try.func13, Try.ntmps13
  go_wp2
  go_loop [3] (fun i => ∃ k : Nat, k ≤ 22 ∧ i = .int .i64 k ∧ Hid (∀ j, j < k → tab j ≠ c)) (fun i => 22 - (intOf i).toNat)
  case atStart => exact ⟨0, by omega, rfl, fun j hj => by omega⟩
  case round =>
    obtain ⟨k, hk, rfl, hno⟩ := hrel
    by_cases hlt : k < 22
    · have hx := tab_run k hlt
      by_cases he : tab k = c
      · have HF : Hid (X = if k < 16 then (k : Int) else (k : Int) - 6) := by
          have h := hexM_found hlt he; rw [HX.out] at h; exact h
        have hb : (((tab k).toNat : Int) == (c.toNat : Int)) = true := by rw [he]; simp
        clear HX he hno
        generalize tab k = t at *
        by_cases h16 : k < 16
        · go_wp2
          go_ret
          rw [HF.out, if_pos h16]
          exact ⟨rfl, rfl⟩
        · go_wp2
          go_ret
          rw [HF.out, if_neg h16]
          exact ⟨rfl, rfl⟩
      · have hb : (((tab k).toNat : Int) == (c.toNat : Int)) = false := by
          rw [beq_eq_false_iff_ne]; intro e; apply he; apply UInt8.toNat_inj.1; omega
        have hno' : Hid (∀ j, j < k + 1 → tab j ≠ c) := by
          intro j hj
          by_cases h : j = k
          · subst h; exact he
          · exact hno.out j (by omega)
        clear he hno
        generalize tab k = t at *
        go_wp2
        go_round
        case rel => exact ⟨k + 1, by omega, by go_num, hno'⟩
        case measure => simp [intOf]; omega
    · have HF : Hid (X = -1) := by
        have h := hexM_none (c := c) (fun j hj => hno.out j (by omega)); rw [HX.out] at h; exact h
      clear HX hno
      go_wp2
      go_ret
      rw [HF.out]
      exact ⟨rfl, rfl⟩

/-! ### a piece, in plain words -/
theorem len_eq (s : ByteArray) : s.data.toList.length = s.size := by simp

theorem at37 (s : ByteArray) (k : Nat) (h : k < s.size) (h37 : s[k] = 37) : s.data.toList.drop k = 37 :: s.data.toList.drop (k + 1) := by
  rw [drop_at s k h, h37]

theorem piece_short {s : ByteArray} {k j : Nat} {acc : List UInt8} (hk : k < s.size) (h37 : s[k] = 37) (hkj : k + 1 ≤ j) (hj : j ≤ s.size) (hend : ∀ h : j < s.size, s[j] = 37) (hsh : j < k + 3) :
    Pd.go (s.data.toList.drop k) k acc = ([], (k : Int)) := by
  have hbad : (Pd.hexN 37).2 = false := by decide
  rw [at37 s k hk h37]
  by_cases h1 : k + 1 < s.size
  · rw [drop_at s (k + 1) h1]
    by_cases h2 : k + 2 < s.size
    · rw [drop_at s (k + 2) h2]
      refine Pd.go_bad _ _ _ _ _ ?_
      intro hb
      have hcase : j = k + 1 ∨ j = k + 2 := by omega
      rcases hcase with e | e
      · subst e; have := hend h1; rw [this, hbad] at hb; simp at hb
      · subst e; have := hend h2; rw [this, hbad] at hb; simp at hb
    · rw [List.drop_of_length_le (by rw [len_eq]; omega)]
      exact Pd.go_short1 _ _ _
  · rw [List.drop_of_length_le (by rw [len_eq]; omega)]
    exact Pd.go_short0 _ _

theorem piece_bad {s : ByteArray} {k : Nat} {acc : List UInt8} (hk : k + 2 < s.size) (h37 : s[k] = 37) (hb : hexM s[k + 1] < 0 ∨ hexM s[k + 2] < 0) :
    Pd.go (s.data.toList.drop k) k acc = ([], (k : Int)) := by
  rw [at37 s k (by omega) h37, drop_at s (k + 1) (by omega), drop_at s (k + 2) hk]
  refine Pd.go_bad _ _ _ _ _ ?_
  rintro ⟨h1, h2⟩
  unfold hexM at hb
  rw [if_pos h1, if_pos h2] at hb
  omega

theorem piece_good {s : ByteArray} {k : Nat} {acc : List UInt8} (hk : k + 2 < s.size) (h37 : s[k] = 37) (hb1 : 0 ≤ hexM s[k + 1]) (hb2 : 0 ≤ hexM s[k + 2]) :
    Pd.go (s.data.toList.drop k) k acc = Pd.go (s.data.toList.drop (k + 3)) (k + 3) (acc ++ [Pd.pair s[k + 1] s[k + 2]]) ∧
      hexM s[k + 1] < 16 ∧ hexM s[k + 2] < 16 ∧ ((Pd.pair s[k + 1] s[k + 2]).toNat : Int) = hexM s[k + 1] * 16 + hexM s[k + 2] := by
  have e1 : (Pd.hexN s[k + 1]).2 = true := by
    cases h : (Pd.hexN s[k + 1]).2 with
    | true => rfl
    | false => exfalso; unfold hexM at hb1; rw [h] at hb1; simp at hb1
  have e2 : (Pd.hexN s[k + 2]).2 = true := by
    cases h : (Pd.hexN s[k + 2]).2 with
    | true => rfl
    | false => exfalso; unfold hexM at hb2; rw [h] at hb2; simp at hb2
  have l1 := hexN_lt s[k + 1]
  have l2 := hexN_lt s[k + 2]
  refine ⟨?_, ?_, ?_, ?_⟩
  · rw [at37 s k (by omega) h37, drop_at s (k + 1) (by omega), drop_at s (k + 2) hk]
    exact Pd.go_good _ _ _ _ _ e1 e2
  · unfold hexM; rw [if_pos e1]; omega
  · unfold hexM; rw [if_pos e2]; omega
  · unfold hexM; rw [if_pos e1, if_pos e2, pair_toNat]; omega

/-- A byte that is no percent sign goes over as it is. -/
theorem go_byte {s : ByteArray} {m : Nat} {acc : List UInt8} (hm : m < s.size) (h : s[m] ≠ 37) : Pd.go (s.data.toList.drop m) m acc = Pd.go (s.data.toList.drop (m + 1)) (m + 1) (acc ++ [s[m]]) := by
  rw [drop_at s m hm, Pd.go_plain _ _ _ _ h]

theorem go_end {s : ByteArray} {m : Nat} {acc : List UInt8} (hm : s.size ≤ m) : Pd.go (s.data.toList.drop m) m acc = (acc, -1) := by
  rw [List.drop_of_length_le (by rw [len_eq]; omega), Pd.go_nil]

/-- A byte of a cut. -/
theorem ex_at (s : ByteArray) (a b m : Nat) (h : m < (s.extract a b).size) (hb : b ≤ s.size) :
    (s.extract a b)[m] = s[a + m]'(by rw [ByteArray.size_extract] at h; omega) := by
  rw [ByteArray.getElem_extract]

/-! ### what the call has gathered -/
/-- out holds acc, in a row of the call's own. -/
def OwnB (w : World) (out : Value) (acc : List UInt8) (wr : World) : Prop :=
  ∃ g cap, out = .slice (some ⟨g, 0, none⟩) acc.length cap ∧ wr.ownsRow w.heap.size 5 1 out acc.length (cellsOf acc) ∧ Below w.heap.size w wr

theorem OwnB.push {w wr w2 : World} {g cap g2 cap2 : Nat} {acc : List UInt8} {c : UInt8} {o : Obj}
    (hown : wr.ownsRow w.heap.size 5 1 (.slice (some ⟨g, 0, none⟩) acc.length cap) acc.length (cellsOf acc)) (hbel : Below w.heap.size w wr)
    (hown2 : w2.ownsRow w.heap.size 5 1 (.slice (some ⟨g2, 0, none⟩) (acc.length + 1) cap2) (acc.length + 1) (cellsOf acc ++ cellsOf [c]))
    (hgrow : (wr.alloc o).grownBy w2 (some g)) : OwnB w (.slice (some ⟨g2, 0, none⟩) (acc.length + 1) cap2) (acc ++ [c]) w2 := by
  have hl : (acc ++ [c]).length = acc.length + 1 := by simp
  refine ⟨g2, cap2, by rw [hl], ?_, ?_⟩
  · rw [hl, cellsOf_append]; exact hown2
  · have h1 := hown.lt g rfl
    exact (hbel.alloc hbel.size _).grown hgrow (by have := hbel.size; simp; omega) (by intro b hb; simp at hb; omega)

/-- The first loop. -/
def Mod1 (s : ByteArray) (w : World) (R : List UInt8 × Int) (out i : Value) (wr : World) : Prop :=
  ∃ (k : Nat) (acc : List UInt8), k ≤ s.size ∧ i = .int .i64 k ∧ acc.length ≤ k ∧ Pd.go (s.data.toList.drop k) k acc = R ∧ OwnB w out acc wr

/-- The second loop: at its head stands a percent sign, or nothing. -/
def Mod2 (s : ByteArray) (w : World) (R : List UInt8 × Int) (out i : Value) (wr : World) : Prop :=
  ∃ (k : Nat) (acc : List UInt8), k ≤ s.size ∧ i = .int .i64 k ∧ acc.length ≤ k ∧ Pd.go (s.data.toList.drop k) k acc = R ∧ (∀ h : k < s.size, s[k] = 37) ∧ OwnB w out acc wr

/-- The innermost loop: the rest of the piece. -/
def Mod4 (s : ByteArray) (w : World) (R : List UInt8 × Int) (q j : Nat) (out mv : Value) (wr : World) : Prop :=
  ∃ (m : Nat) (ab : List UInt8), 2 ≤ m ∧ q + 1 + m ≤ j ∧ mv = .int .i64 m ∧ ab.length ≤ q + 1 + m ∧ Pd.go (s.data.toList.drop (q + 1 + m)) (q + 1 + m) ab = R ∧ OwnB w out ab wr

set_option maxHeartbeats 4000000 in
set_option maxRecDepth 100000 in
/-- pdModel at every string of at most 2^24 bytes. -/
theorem pdModel_any (s : ByteArray) (w : World) (hs : s.size ≤ 16777216) :
    Calls Try.prog 8 #[.string s] w fun e w' => e = .returned (.tuple #[.string ⟨(Pd.go s.data.toList 0 []).1.toArray⟩, .int .i64 (Pd.go s.data.toList 0 []).2]) ∧ Below w.heap.size w w' := by
  generalize hR : Pd.go s.data.toList 0 [] = R
  have HR : Hid (Pd.go s.data.toList 0 [] = R) := hR
  clear hR
  obtain ⟨i0, hi, hz0, hz1, hz2⟩ := info_parts Try.info5
  go_enter Try.func8, Try.ntmps8
  go_wp2_with (at_make; refine wpList_make_own _ rfl _ _ 28 rfl w.heap.size 5 i0 (.int .u8 0) 1 Try.underlying28 hi hz0 hz1 _ _ _ s.size rfl rfl (by omega) (by rw [hz2]; omega) (by unfold maxLen; omega) (Nat.le_refl _) ?_; intro w1 hown1 hgrow1)
  go_loopw [4, 5] (fun out i wr => Mod1 s w R out i wr) (fun _ i _ => s.size - (intOf i).toNat)
  case atStart => exact ⟨0, [], Nat.zero_le _, rfl, Nat.le_refl _, HR.out, w.heap.size, s.size, rfl, hown1, (Below.refl _ _).grown hgrow1 (Nat.le_refl _) (by intro b hb; simp at hb)⟩
  case round =>
    clear hown1 hgrow1 HR
    obtain ⟨k, acc, hk, rfl, hacc, hgo, g, cap, rfl, hown, hbel⟩ := hrel
    have HG : Hid (Pd.go (s.data.toList.drop k) k acc = R) := hgo
    clear hgo
    have hsz := hbel.size
    by_cases hgo1 : ∃ h : k < s.size, s[k] ≠ 37
    · obtain ⟨hlt, hne⟩ := hgo1
      have HG2 : Hid (Pd.go (s.data.toList.drop (k + 1)) (k + 1) (acc ++ [s[k]]) = R) := by
        have h := HG.out; rw [go_byte hlt hne] at h; exact h
      have hb : ((s[k].toNat : Int) != 37) = true := by
        rw [bne_iff_ne]; intro e; apply hne; apply UInt8.toNat_inj.1; show s[k].toNat = 37; omega
      clear hne HG
      go_wp2_with (at_builtin; refine wpList_append_lies _ rfl _ _ _ rfl w.heap.size 5 i0 _ 1 1 Try.underlying28 hi hz0 hz1 hz2 rfl (by omega) _ acc.length (cellsOf acc) rfl (hown.alloc _) ⟨wr.heap.size, 0, none⟩ 1 1 (cellsOf [s[k]]) rfl rfl (World.news_of_block (cs := #[.int .u8 (s[k].toNat : Int)]) (t := 5) (fr := (0, 0)) (heap_alloc_new wr _)) (cellsOf_one _) (by omega) (by unfold maxLen; omega) (by omega) (by simp; omega) (wr.heap.size + 1) (by simp) ?_; intro g2 cap2 w2 hown2 hgrow2 hat hlt2)
      go_roundw
      case rel => exact ⟨k + 1, acc ++ [s[k]], hlt, by go_num, by simp; omega, HG2.out, OwnB.push hown hbel hown2 hgrow2⟩
      case measure => simp [intOf]; omega
    · have hend : ∀ h : k < s.size, s[k] = 37 := fun h => Classical.byContradiction fun hn => hgo1 ⟨h, hn⟩
      clear hgo1
      have HE : Hid (∀ h : k < s.size, s[k] = 37) := hend
      clear hend
      by_cases hlt : k < s.size
      focus
        have hb : ((s[k].toNat : Int) != 37) = false := by rw [HE.out hlt]; decide
        go_wp2_with fail
        clear hb
      rotate_left
      focus
        go_wp2_with fail
      all_goals
        obtain ⟨wo, rfl⟩ : ∃ wo : World, wo = wr := ⟨_, rfl⟩
        go_loopw [4, 5] (fun out i wr => Mod2 s w R out i wr) (fun _ i _ => s.size - (intOf i).toNat)
        case atStart => exact ⟨k, acc, hk, rfl, hacc, HG.out, HE.out, g, cap, rfl, hown, hbel⟩
        case round =>
          clear HG HE hown hbel hacc hk hsz
          obtain ⟨q, ac, hk, rfl, hacc, hgo, hend, gg, cc, rfl, hown, hbel⟩ := hrel
          have HG : Hid (Pd.go (s.data.toList.drop q) q ac = R) := hgo
          have HE : Hid (∀ h : q < s.size, s[q] = 37) := hend
          clear hgo hend
          have hsz := hbel.size
          by_cases hltq : q < s.size
          · have H37 : Hid (s[q] = 37) := HE.out hltq
            clear HE
            go_wp2_with fail
            go_loop [6] (fun jv => ∃ j : Nat, q + 1 ≤ j ∧ j ≤ s.size ∧ jv = .int .i64 j ∧ Hid (∀ m (h : m < s.size), q + 1 ≤ m → m < j → s[m] ≠ 37)) (fun jv => s.size - (intOf jv).toNat)
            case atStart => exact ⟨q + 1, by omega, by omega, by go_num, fun m h h1 h2 => by omega⟩
            case round =>
              obtain ⟨j, hj1, hj2, rfl, hno⟩ := hrel
              by_cases hmore : ∃ h : j < s.size, s[j] ≠ 37
              · obtain ⟨hltj, hne⟩ := hmore
                have hb : ((s[j].toNat : Int) != 37) = true := by
                  rw [bne_iff_ne]; intro e; apply hne; apply UInt8.toNat_inj.1; show s[j].toNat = 37; omega
                have hno' : Hid (∀ m (h : m < s.size), q + 1 ≤ m → m < j + 1 → s[m] ≠ 37) := by
                  intro m h h1 h2
                  by_cases e : m = j
                  · subst e; exact hne
                  · exact hno.out m h h1 (by omega)
                clear hne hno
                go_wp2
                go_round
                case rel => exact ⟨j + 1, by omega, by omega, by go_num, hno'⟩
                case measure => simp [intOf]; omega
              · have HJ : Hid (∀ h : j < s.size, s[j] = 37) := fun h => Classical.byContradiction fun hn => hmore ⟨h, hn⟩
                clear hmore
                have hbj : ∀ h : j < s.size, ((s[j].toNat : Int) != 37) = false := fun h => by rw [HJ.out h]; decide
                by_cases hsh : j < q + 3
                · have HF : Hid (R = ([], (q : Int))) := by
                    have h := HG.out; rw [piece_short hltq H37.out hj1 hj2 HJ.out hsh] at h; exact h.symm
                  clear HG HJ hno H37
                  by_cases hltj : j < s.size
                  all_goals
                    try (have hb := hbj hltj)
                    clear hbj
                    go_wp2
                    go_ret2
                    rw [HF.out]
                    exact ⟨rfl, hbel⟩
                · have hq2 : q + 2 < s.size := by omega
                  by_cases hltj : j < s.size
                  focus
                    have hb := hbj hltj
                    clear hbj
                    go_wp2_with fail
                    clear hb
                  rotate_left
                  focus
                    clear hbj
                    go_wp2_with fail
                  all_goals
                    refine (pdHexVal_any _ _).mono ?_
                    rintro e W3 ⟨rfl, rfl⟩
                    generalize hh1 : hexM ((s.extract (q + 1) j)[0]'(by rw [ByteArray.size_extract]; omega)) = x1
                    have HX1 : Hid (hexM s[q + 1] = x1) := by rw [← hh1, ex_at s (q + 1) j 0 _ hj2]; rfl
                    clear hh1
                    go_wp2_with fail
                    refine (pdHexVal_any _ _).mono ?_
                    rintro e W4 ⟨rfl, rfl⟩
                    generalize hh2 : hexM ((s.extract (q + 1) j)[1]'(by rw [ByteArray.size_extract]; omega)) = x2
                    have HX2 : Hid (hexM s[q + 2] = x2) := by rw [← hh2, ex_at s (q + 1) j 1 _ hj2]; rfl
                    clear hh2
                    by_cases hneg : x1 < 0 ∨ x2 < 0
                    · have HF : Hid (R = ([], (q : Int))) := by
                        have h := HG.out; rw [piece_bad hq2 H37.out (by rw [HX1.out, HX2.out]; exact hneg)] at h; exact h.symm
                      clear HG HX1 HX2 HJ hno H37
                      have hneg' : x1 < 0 ∨ (0 ≤ x1 ∧ x2 < 0) := by omega
                      clear hneg
                      rcases hneg' with h1 | ⟨h1, h2⟩
                      all_goals
                        go_wp2
                        go_ret2
                        rw [HF.out]
                        exact ⟨rfl, hbel⟩
                    · have hp1 : 0 ≤ x1 := by omega
                      have hp2 : 0 ≤ x2 := by omega
                      clear hneg
                      have hpg := piece_good (acc := ac) hq2 H37.out (by rw [HX1.out]; exact hp1) (by rw [HX2.out]; exact hp2)
                      rw [HX1.out, HX2.out, HG.out] at hpg
                      obtain ⟨hg1, hg2, hg3, hg4⟩ := hpg
                      clear HX1 HX2 HG H37
                      generalize Pd.pair s[q + 1] s[q + 2] = c at *
                      have HC : Hid ((c.toNat : Int) = x1 * 16 + x2) := hg4
                      have HG : Hid (R = Pd.go (s.data.toList.drop (q + 3)) (q + 3) (ac ++ [c])) := hg1
                      clear hg4 hg1
                      go_wp2_with (at_builtin; refine wpList_append_lies _ rfl _ _ _ rfl w.heap.size 5 i0 _ 1 1 Try.underlying28 hi hz0 hz1 hz2 rfl (by omega) _ ac.length (cellsOf ac) rfl (hown.alloc _) ⟨W4.heap.size, 0, none⟩ 1 1 [.int .u8 (x1 * 16 + x2)] rfl rfl (World.news_of_block (cs := #[.int .u8 (x1 * 16 + x2)]) (t := 5) (fr := (0, 0)) (heap_alloc_new W4 _)) (by simp [Value.oneCell']) (by omega) (by unfold maxLen; omega) (by omega) (by simp; omega) (W4.heap.size + 1) (by simp) ?_; intro g2 cap2 w2 hown2 hgrow2 hat hlt2)
                      have hcc : [Value.int .u8 (x1 * 16 + x2)] = cellsOf [c] := by simp [cellsOf, HC.out]
                      rw [hcc] at hown2
                      have HO : Hid (OwnB w (.slice (some ⟨g2, 0, none⟩) (ac.length + 1) cap2) (ac ++ [c]) w2) := OwnB.push hown hbel hown2 hgrow2
                      clear hcc hown2 hgrow2 hat hlt2 HC hown hbel hsz
                      go_loopw [4, 10] (fun out mv wr => Mod4 s w R q j out mv wr) (fun _ mv _ => j - (intOf mv).toNat)
                      case atStart => exact ⟨2, ac ++ [c], Nat.le_refl _, by omega, rfl, by simp; omega, HG.out.symm, by simpa using HO.out⟩
                      case round =>
                        clear HO HG
                        obtain ⟨m, ab, hm1, hm2, rfl, hab, hgo, g3, c3, rfl, hown, hbel⟩ := hrel
                        have HG : Hid (Pd.go (s.data.toList.drop (q + 1 + m)) (q + 1 + m) ab = R) := hgo
                        clear hgo
                        have hsz := hbel.size
                        by_cases hltm : m < j - (q + 1)
                        · have hq3 : q + 1 + m < s.size := by omega
                          have hmp : m < (s.extract (q + 1) j).size := by rw [ByteArray.size_extract]; omega
                          have HG2 : Hid (Pd.go (s.data.toList.drop (q + 1 + (m + 1))) (q + 1 + (m + 1)) (ab ++ [(s.extract (q + 1) j)[m]]) = R) := by
                            have h := HG.out
                            rw [go_byte hq3 (hno.out _ hq3 (by omega) (by omega))] at h
                            rw [ex_at s (q + 1) j m hmp hj2]
                            exact h
                          clear HG
                          go_wp2_with (at_builtin; refine wpList_append_lies _ rfl _ _ _ rfl w.heap.size 5 i0 _ 1 1 Try.underlying28 hi hz0 hz1 hz2 rfl (by omega) _ ab.length (cellsOf ab) rfl (hown.alloc _) ⟨wr.heap.size, 0, none⟩ 1 1 (cellsOf [(s.extract (q + 1) j)[m]]) rfl rfl (World.news_of_block (cs := #[.int .u8 ((s.extract (q + 1) j)[m].toNat : Int)]) (t := 5) (fr := (0, 0)) (heap_alloc_new wr _)) (cellsOf_one _) (by omega) (by unfold maxLen; omega) (by omega) (by simp; omega) (wr.heap.size + 1) (by simp) ?_; intro g2 cap2 w2 hown2 hgrow2 hat hlt2)
                          go_roundw
                          case rel => exact ⟨m + 1, _, by omega, by omega, by go_num, by simp; omega, HG2.out, OwnB.push hown hbel hown2 hgrow2⟩
                          case measure => simp [intOf]; omega
                        · have ejm : q + 1 + m = j := by omega
                          have HG2 : Hid (Pd.go (s.data.toList.drop j) j ab = R) := by
                            have h := HG.out; rw [ejm] at h; exact h
                          clear HG ejm
                          go_wp2
                          go_roundw
                          case rel => exact ⟨j, ab, hj2, rfl, by omega, HG2.out, HJ.out, g3, c3, rfl, hown, hbel⟩
                          case measure => simp [intOf]; omega
          · have HF : Hid (R = (ac, -1)) := by
              have h := HG.out; rw [go_end (by omega)] at h; exact h.symm
            have hcv := conv_own hown
            clear HG HE
            go_wp2
            go_ret2
            rw [HF.out]
            exact ⟨rfl, hbel⟩
end Go.Proofs.Qxb6606103a
