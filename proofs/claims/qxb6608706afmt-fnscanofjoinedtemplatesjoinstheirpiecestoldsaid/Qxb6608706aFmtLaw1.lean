/-
  THE WALK of the first law: FnScanSplitsExactlyTheWellFormedTemplates.
-/
import Derived.Test.Qxb6608706aFmtScan
import Derived.Test.Qxb6608706aFmtPieces
namespace Go.Proofs.Qxb6608706aFmt
open Go.RowKit Go.Extern.Stop Go.Stop Go.Extern

/-! ### plain facts -/
theorem Ok_at : ∀ (b : Bool) (T : List Tp.Tok), Tp.Ok b T → ∀ k (h : k < T.length), (T[k].2 = true → Tp.noBrace T[k].1) ∧ (T[k].2 = false → T[k].1 ≠ [] ∧ ((k = 0 ∧ b = true) ∨ ∃ h1 : k - 1 < T.length, 0 < k ∧ T[k - 1].2 = true))
  | b, [], _, k, h => by simp at h
  | b, t :: T, ho, k, h => by
    obtain ⟨h1, h2⟩ := ho
    cases k with
    | zero =>
      simp only [List.getElem_cons_zero]
      refine ⟨fun e => by rw [if_pos e] at h1; exact h1, fun e => ?_⟩
      rw [if_neg (by simp [e])] at h1
      exact ⟨h1.1, .inl ⟨by simp, h1.2⟩⟩
    | succ k =>
      have ih := Ok_at t.2 T h2 k (by simpa using h)
      simp only [List.getElem_cons_succ]
      refine ⟨ih.1, fun e => ⟨(ih.2 e).1, .inr ?_⟩⟩
      rcases (ih.2 e).2 with ⟨rfl, hb⟩ | ⟨hk1, hk0, hb⟩
      · exact ⟨by simp, by omega, by simpa using hb⟩
      · obtain ⟨m, rfl⟩ : ∃ m, k = m + 1 := ⟨k - 1, by omega⟩
        exact ⟨by simp at hk1 ⊢; omega, by omega, by simpa using hb⟩

theorem esc_ge : ∀ l : List UInt8, l.length ≤ (Tp.esc l).length
  | [] => by simp [Tp.esc]
  | c :: l => by
    have h1 := esc_ge l
    have h2 : 1 ≤ (Tp.esc1 c).length := by unfold Tp.esc1; split <;> simp
    simp [Tp.esc]; omega
theorem rend1_ge (t : Tp.Tok) : t.1.length ≤ (Tp.rend1 t).length := by
  unfold Tp.rend1
  split
  · simp; omega
  · exact esc_ge _
theorem rend_ge : ∀ (b : Bool) (T : List Tp.Tok), Tp.Ok b T → T.length ≤ (Tp.rend T).length ∧ ∀ t ∈ T, t.1.length ≤ (Tp.rend T).length
  | _, [], _ => by simp
  | b, t :: T, ho => by
    obtain ⟨h1, h2⟩ := ho
    obtain ⟨i1, i2⟩ := rend_ge t.2 T h2
    have hg := rend1_ge t
    have hpos : 1 ≤ (Tp.rend1 t).length := by
      by_cases e : t.2 = true
      · unfold Tp.rend1; rw [if_pos e]; simp
      · rw [if_neg e] at h1
        have : 0 < t.1.length := List.length_pos_iff.2 h1.1
        omega
    refine ⟨by simp [Tp.rend]; omega, ?_⟩
    intro x hx
    simp at hx
    rcases hx with rfl | hx
    · simp [Tp.rend]; omega
    · have := i2 x hx; simp [Tp.rend]; omega

theorem mk_toList (s : ByteArray) : (⟨s.data.toList.toArray⟩ : ByteArray) = s := by cases s; simp

set_option maxHeartbeats 400000 in
theorem zzscan_any (F : Interp) (s : ByteArray) (w : World) (hF : F.answers w.tape) (hs : s.size ≤ 16777216) :
    Calls Tryf.prog 6 #[.string s] w fun e w' => ScanPost (Tp.run s.data.toList none [] []) w e w' := by
  generalize hR : Tp.run s.data.toList none [] [] = R
  have HR : Hid (Tp.run s.data.toList none [] [] = R) := hR
  clear hR
  go_enter Tryf.func6, Tryf.ntmps6
  go_wp2_with fail
  refine (scan_any F s _ hF hs).mono ?_
  rintro e w' hp
  rw [HR.out] at hp
  cases R with
  | none =>
    obtain ⟨hb, a, rfl⟩ := hp
    go_wp2
    go_ret2
    exact ⟨hb, a, rfl⟩
  | some q =>
    obtain ⟨hb, v, rfl, hown⟩ := hp
    have HO : Hid (w'.ownsRow w.heap.size 38 2 v (Tp.flush q.1 q.2).length (tokCells (Tp.flush q.1 q.2))) := hown
    clear hown
    go_wp2
    go_ret2
    exact ⟨hb, v, rfl, HO.out⟩

theorem zzBytes5_any (s : ByteArray) (w : World) (hs : s.size ≤ 1048576) :
    Calls Tryf.prog 5 #[.string s] w fun e w' => e = .returned (.bool true) ∧ w' = w := by
  go_enter Tryf.func5, Tryf.ntmps5
  go_wp2
  go_ret
  exact ⟨rfl, rfl⟩
theorem zzBytes5_big (s : ByteArray) (w : World) (hs : ¬ s.size ≤ 1048576) (w0 : s.size ≤ maxLen) :
    Calls Tryf.prog 5 #[.string s] w fun e w' => e = .returned (.bool false) ∧ w' = w := by
  unfold maxLen at w0
  go_enter Tryf.func5, Tryf.ntmps5
  go_wp2
  go_ret
  exact ⟨rfl, rfl⟩

set_option maxHeartbeats 1000000 in
set_option maxRecDepth 100000 in
theorem law1 (F : Interp) (s : ByteArray) (w : World) (hF : F.answers w.tape) (ws : s.size ≤ maxLen) :
    Calls Tryf.prog 3 #[.string s] w fun e w' => e = .returned (.bool true) ∧ Below w.heap.size w w' := by
  by_cases hs : s.size ≤ 1048576
  · generalize hR : Tp.run s.data.toList none [] [] = R
    have HR : Hid (Tp.run s.data.toList none [] [] = R) := hR
    clear hR
    cases R with
    | none =>
      go_enter Tryf.func3, Tryf.ntmps3
      go_wp2_with fail
      refine (zzBytes5_any s _ hs).mono ?_
      rintro e w1 ⟨rfl, rfl⟩
      go_wp2_with fail
      refine (zzscan_any F s _ hF (by omega)).mono ?_
      rintro e w2 hp
      rw [HR.out] at hp
      obtain ⟨hb, a, rfl⟩ := hp
      go_wp2_with fail
      refine (wellFormed_any s _ (by omega)).mono ?_
      rintro e w3 ⟨rfl, rfl⟩
      rw [HR.out]
      go_wp2
      go_ret
      exact ⟨rfl, hb⟩
    | some q =>
      have hok := (Tp.ok_scan HR.out).1
      have hrn := Tp.rend_scan HR.out
      generalize hT : Tp.flush q.1 q.2 = T at *
      have hge := rend_ge _ _ hok
      rw [hrn, len_eq] at hge
      have HOK : Hid (Tp.Ok true T) := hok
      have HRN : Hid (Tp.rend T = s.data.toList) := hrn
      have HTQ : Hid (Tp.flush q.1 q.2 = T) := hT
      have HGE : Hid (∀ t ∈ T, t.1.length ≤ s.size) := hge.2
      have hTl := hge.1
      clear hok hrn hT hge
      go_enter Tryf.func3, Tryf.ntmps3
      go_wp2_with fail
      refine (zzBytes5_any s _ hs).mono ?_
      rintro e w1 ⟨rfl, rfl⟩
      go_wp2_with fail
      refine (zzscan_any F s _ hF (by omega)).mono ?_
      rintro e w2 hp
      rw [HR.out] at hp
      obtain ⟨hb2, v, rfl, hown⟩ := hp
      simp only [HTQ.out] at hown
      have HO : Hid (w2.ownsRow w1.heap.size 38 2 v T.length (tokCells T)) := hown
      clear hown
      go_wp2_with fail
      refine (wellFormed_any s _ (by omega)).mono ?_
      rintro e w3 ⟨rfl, rfl⟩
      rw [HR.out]
      go_wp2_with fail
      refine (pieces_any T v _ _ HO.out (by omega)).mono ?_
      rintro e w4 ⟨g1, g2, rfl, hS, hB, hb4⟩
      have HS : Hid (Strs g1 T w4) := hS
      have HBo : Hid (Bools g2 T w4) := hB
      have hb5 := hb2.trans (hb4.mono hb2.size)
      clear hS hB hb4 HO
      go_wp2_with fail
      go_loop [7] (fun i => ∃ k : Nat, k ≤ T.length ∧ i = .int .i64 k) (fun i => T.length - (intOf i).toNat)
      case atStart => exact ⟨0, Nat.zero_le _, rfl⟩
      case round =>
        obtain ⟨k, hk, rfl⟩ := hrel
        by_cases hlt : k < T.length
        · have cS := HS.out.cell k hlt
          have cB := HBo.out.cell k hlt
          have hat := Ok_at _ _ HOK.out k hlt
          have hle := HGE.out T[k] (List.getElem_mem hlt)
          by_cases hf : T[k].2 = true
          · have hnb := hat.1 hf
            rw [hf] at cB
            clear hat hf
            generalize T[k].1 = tx at *
            have hsx : (⟨tx.toArray⟩ : ByteArray).size ≤ 16777216 := by show tx.toArray.size ≤ _; simp; omega
            have HNB : Hid (Tp.noBrace (⟨tx.toArray⟩ : ByteArray).data.toList) := by show Tp.noBrace _; simpa using hnb
            clear hnb
            go_wp2_with fail
            refine (hasBrace_no _ _ hsx HNB.out).mono ?_
            rintro e w5 ⟨rfl, rfl⟩
            go_wp2
            go_round
            case rel => exact ⟨k + 1, hlt, by go_num⟩
            case measure => simp [intOf]; omega
          · have hf' : T[k].2 = false := by simpa using hf
            obtain ⟨hne, hprev⟩ := hat.2 hf'
            rw [hf'] at cB
            clear hat hf hf'
            have hem : (T[k].1).isEmpty = false := by simpa using hne
            clear hne
            rcases hprev with ⟨rfl, _⟩ | ⟨hk1, hk0, hp⟩
            · generalize T[0].1 = tx at *
              go_wp2
              go_round
              case rel => exact ⟨1, hlt, by go_num⟩
              case measure => simp [intOf]; omega
            · obtain ⟨m, rfl⟩ : ∃ m, k = m + 1 := ⟨k - 1, by omega⟩
              have cP := HBo.out.cell m (by omega)
              simp only [Nat.add_sub_cancel] at hp
              rw [hp] at cP
              clear hp hk1
              generalize T[m + 1].1 = tx at *
              go_wp2
              go_round
              case rel => exact ⟨m + 1 + 1, hlt, by go_num⟩
              case measure => simp [intOf]; omega
        · have hlr : (Tp.rend T).length ≤ 67108864 := by rw [HRN.out, len_eq]; omega
          go_wp2_with fail
          refine (render_any T g1 T.length g2 T.length _ HS.out HBo.out (by omega) hlr (fun t ht => by have := HGE.out t ht; omega)).mono ?_
          rintro e w6 ⟨rfl, hb6⟩
          rw [HRN.out, mk_toList]
          have hb7 := hb5.trans (hb6.mono hb5.size)
          clear hb6 hlr
          go_wp2
          go_ret
          exact ⟨rfl, hb7⟩
  · go_enter Tryf.func3, Tryf.ntmps3
    go_wp2_with fail
    refine (zzBytes5_big s _ hs ws).mono ?_
    rintro e w1 ⟨rfl, rfl⟩
    go_wp2
    go_ret
    exact ⟨rfl, Below.refl _ _⟩
end Go.Proofs.Qxb6608706aFmt
