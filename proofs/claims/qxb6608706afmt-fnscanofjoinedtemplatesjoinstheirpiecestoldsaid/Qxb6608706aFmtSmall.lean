/-
  THE WALKS of zzWellFormed and zzHasBrace.
-/
import Derived.Test.Qxb6608706aFmtSteps
namespace Go.Proofs.Qxb6608706aFmt
open Go.RowKit

/-- The relation of zzWellFormed's loop: the automaton's answer from here on. -/
def WfRel (s : ByteArray) (W : Bool) (inf i : Value) : Prop :=
  ∃ (k : Nat) (fld : Option (List UInt8)) (lit : List UInt8) (T : List Tp.Tok), k ≤ s.size ∧ i = .int .i64 k ∧ inf = .bool fld.isSome ∧ (Tp.run (s.data.toList.drop k) fld lit T).isSome = W

theorem run_f (s : ByteArray) (k : Nat) (h : k < s.size) (f lit : List UInt8) (T : List Tp.Tok) :
    (s[k] = 123 ∧ Tp.run (s.data.toList.drop k) (some f) lit T = none) ∨
    (s[k] = 125 ∧ Tp.run (s.data.toList.drop k) (some f) lit T = Tp.run (s.data.toList.drop (k + 1)) none [] (T ++ [(f, true)])) ∨
    (¬ Tp.brace s[k] ∧ Tp.run (s.data.toList.drop k) (some f) lit T = Tp.run (s.data.toList.drop (k + 1)) (some (f ++ [s[k]])) lit T) := by
  rw [drop_at s k h]
  by_cases h1 : s[k] = 123
  · left; refine ⟨h1, ?_⟩; rw [h1, Tp.run_f123]
  · by_cases h2 : s[k] = 125
    · right; left; refine ⟨h2, ?_⟩; rw [h2, Tp.run_f125]
    · right; right
      have hb : ¬ Tp.brace s[k] := by rintro (e | e) <;> contradiction
      exact ⟨hb, Tp.run_fplain _ _ _ _ _ hb⟩

theorem beq_123_t {a : UInt8} (h : a = 123) : ((a.toNat : Int) == 123) = true := by rw [h]; decide
theorem beq_125_t {a : UInt8} (h : a = 125) : ((a.toNat : Int) == 125) = true := by rw [h]; decide
theorem beq_123_f {a : UInt8} (h : a ≠ 123) : ((a.toNat : Int) == 123) = false := by
  rw [beq_eq_false_iff_ne]; have := toNat_ne (n := 123) (by omega) h; omega
theorem beq_125_f {a : UInt8} (h : a ≠ 125) : ((a.toNat : Int) == 125) = false := by
  rw [beq_eq_false_iff_ne]; have := toNat_ne (n := 125) (by omega) h; omega

set_option maxHeartbeats 2000000 in
set_option maxRecDepth 100000 in
theorem wellFormed_any (s : ByteArray) (w : World) (hs : s.size ≤ 16777216) :
    Calls Tryf.prog 7 #[.string s] w fun e w' => e = .returned (.bool (Tp.run s.data.toList none [] []).isSome) ∧ w' = w := by
  generalize hW : (Tp.run s.data.toList none [] []).isSome = W
  have HW : Hid ((Tp.run s.data.toList none [] []).isSome = W) := hW
  clear hW
  go_enter Tryf.func7, Tryf.ntmps7
  go_wp2_with fail
  go_loop [3, 4] (fun inf i => WfRel s W inf i) (fun _ i => s.size - (intOf i).toNat)
  case atStart => exact ⟨0, none, [], [], Nat.zero_le _, rfl, rfl, HW.out⟩
  case round =>
    clear HW
    obtain ⟨k, fld, lit, T, hk, rfl, rfl, hrun⟩ := hrel
    have HG : Hid ((Tp.run (s.data.toList.drop k) fld lit T).isSome = W) := hrun
    clear hrun
    by_cases hlt : k < s.size
    · cases fld with
      | some f =>
        rcases run_f s k hlt f lit T with ⟨hc, hr⟩ | ⟨hc, hr⟩ | ⟨hc, hr⟩
        · have HF : Hid (W = false) := by have h := HG.out; rw [hr] at h; exact h.symm
          have h123 := beq_123_t hc
          clear HG hr hc
          go_wp2
          go_ret
          rw [HF.out]
          exact ⟨rfl, rfl⟩
        · have HG2 : Hid ((Tp.run (s.data.toList.drop (k + 1)) none [] (T ++ [(f, true)])).isSome = W) := by have h := HG.out; rw [hr] at h; exact h
          have h123 : ((s[k].toNat : Int) == 123) = false := by rw [hc]; decide
          have h125 := beq_125_t hc
          clear HG hr hc
          go_wp2
          go_round
          case rel => exact ⟨k + 1, none, [], _, hlt, by go_num, rfl, HG2.out⟩
          case measure => simp [intOf]; omega
        · have HG2 : Hid ((Tp.run (s.data.toList.drop (k + 1)) (some (f ++ [s[k]])) lit T).isSome = W) := by have h := HG.out; rw [hr] at h; exact h
          have h123 := beq_123_f (fun e => hc (Or.inl e))
          have h125 := beq_125_f (fun e => hc (Or.inr e))
          clear HG hr hc
          go_wp2
          go_round
          case rel => exact ⟨k + 1, some (f ++ [s[k]]), lit, T, hlt, by go_num, rfl, HG2.out⟩
          case measure => simp [intOf]; omega
      | none =>
        by_cases hb : Tp.brace s[k]
        · by_cases hd : Dbl s k hlt
          · have HG2 : Hid ((Tp.run (s.data.toList.drop (k + 2)) none (lit ++ [s[k]]) T).isSome = W) := by have h := HG.out; rw [step_dbl hlt hb hd] at h; exact h
            obtain ⟨h1, he⟩ := hd
            have hbe : ((s[k + 1].toNat : Int) == (s[k].toNat : Int)) = true := by rw [he]; simp
            clear HG he
            rcases hb with hc | hc
            focus
              have h123 := beq_123_t hc
              clear hc
              go_wp2
            rotate_left
            focus
              have h123 : ((s[k].toNat : Int) == 123) = false := by rw [hc]; decide
              have h125 := beq_125_t hc
              clear hc
              go_wp2
            all_goals
              go_round
              case rel => exact ⟨k + 2, none, _, T, by omega, by go_num, rfl, HG2.out⟩
              case measure => simp [intOf]; omega
          · have hbe : ∀ h1 : k + 1 < s.size, ((s[k + 1].toNat : Int) == (s[k].toNat : Int)) = false := fun h1 => by
              rw [beq_eq_false_iff_ne]; intro e; exact hd ⟨h1, UInt8.toNat_inj.1 (by omega)⟩
            rcases hb with hc | hc
            · have HG2 : Hid ((Tp.run (s.data.toList.drop (k + 1)) (some []) [] (Tp.flush lit T)).isSome = W) := by have h := HG.out; rw [step_open hlt hc hd] at h; exact h
              have h123 := beq_123_t hc
              have h125 : ((s[k].toNat : Int) == 125) = false := by rw [hc]; decide
              clear HG hc hd
              by_cases h1 : k + 1 < s.size
              all_goals
                try (have hbf := hbe h1)
                clear hbe
                go_wp2
                go_round
                case rel => exact ⟨k + 1, some [], [], _, hlt, by go_num, rfl, HG2.out⟩
                case measure => simp [intOf]; omega
            · have HF : Hid (W = false) := by have h := HG.out; rw [step_shut hlt hc hd] at h; exact h.symm
              have h123 : ((s[k].toNat : Int) == 123) = false := by rw [hc]; decide
              have h125 := beq_125_t hc
              clear HG hc hd
              by_cases h1 : k + 1 < s.size
              all_goals
                try (have hbf := hbe h1)
                clear hbe
                go_wp2
                go_ret
                rw [HF.out]
                exact ⟨rfl, rfl⟩
        · have HG2 : Hid ((Tp.run (s.data.toList.drop (k + 1)) none (lit ++ [s[k]]) T).isSome = W) := by have h := HG.out; rw [step_plain hlt hb] at h; exact h
          have h123 := beq_123_f (fun e => hb (Or.inl e))
          have h125 := beq_125_f (fun e => hb (Or.inr e))
          clear HG hb
          go_wp2
          go_round
          case rel => exact ⟨k + 1, none, _, T, hlt, by go_num, rfl, HG2.out⟩
          case measure => simp [intOf]; omega
    · have HF : Hid (W = fld.isNone) := by
        have h := HG.out
        rw [List.drop_of_length_le (by rw [len_eq]; omega)] at h
        cases fld with
        | none => rw [Tp.run_end] at h; exact h.symm
        | some f => rw [Tp.run_open] at h; exact h.symm
      clear HG
      go_wp2
      go_ret
      rw [HF.out]
      exact ⟨rfl, rfl⟩

set_option maxHeartbeats 400000 in
set_option maxRecDepth 100000 in
/-- zzHasBrace at a text without a brace. -/
theorem hasBrace_no (s : ByteArray) (w : World) (hs : s.size ≤ 16777216) (hno : Tp.noBrace s.data.toList) :
    Calls Tryf.prog 9 #[.string s] w fun e w' => e = .returned (.bool false) ∧ w' = w := by
  have HN : Hid (∀ k (h : k < s.size), ¬ Tp.brace s[k]) := fun k h => hno _ (by
    have : s[k] = s.data.toList[k]'(by simpa using h) := rfl
    rw [this]; exact List.getElem_mem _)
  clear hno
  go_enter Tryf.func9, Tryf.ntmps9
  go_wp2_with fail
  go_loop [3] (fun i => ∃ k : Nat, k ≤ s.size ∧ i = .int .i64 k) (fun i => s.size - (intOf i).toNat)
  case atStart => exact ⟨0, Nat.zero_le _, rfl⟩
  case round =>
    obtain ⟨k, hk, rfl⟩ := hrel
    by_cases hlt : k < s.size
    · have h123 := beq_123_f (fun e => HN.out k hlt (Or.inl e))
      have h125 := beq_125_f (fun e => HN.out k hlt (Or.inr e))
      go_wp2
      go_round
      case rel => exact ⟨k + 1, hlt, by go_num⟩
      case measure => simp [intOf]; omega
    · go_wp2
      go_ret
      exact ⟨rfl, rfl⟩
end Go.Proofs.Qxb6608706aFmt
