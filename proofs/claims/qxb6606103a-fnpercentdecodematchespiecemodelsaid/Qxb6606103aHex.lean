/-
  THE WALK of hexValue: it computes 'Pd.hexN'.
-/
import Derived.Test.Qxb6606103aRows
import Derived.WalkKit
import Derived.WalkSpells
import Derived.WalkLawsBesides
import Derived.Test.Qxb6606103aPlain
namespace Go.Proofs.Qxb6606103a
open Go.RowKit

theorem hexN_case (c : UInt8) :
    (48 ≤ (c.toNat : Int) ∧ (c.toNat : Int) ≤ 57 ∧ ((Pd.hexN c).1 : Int) = c.toNat - 48 ∧ (Pd.hexN c).2 = true) ∨
    (97 ≤ (c.toNat : Int) ∧ (c.toNat : Int) ≤ 102 ∧ ((Pd.hexN c).1 : Int) = c.toNat - 97 + 10 ∧ (Pd.hexN c).2 = true) ∨
    (65 ≤ (c.toNat : Int) ∧ (c.toNat : Int) ≤ 70 ∧ ((Pd.hexN c).1 : Int) = c.toNat - 65 + 10 ∧ (Pd.hexN c).2 = true) ∨
    (((c.toNat : Int) < 48 ∨ 57 < (c.toNat : Int)) ∧ ((c.toNat : Int) < 97 ∨ 102 < (c.toNat : Int)) ∧ ((c.toNat : Int) < 65 ∨ 70 < (c.toNat : Int)) ∧ ((Pd.hexN c).1 : Int) = 0 ∧ (Pd.hexN c).2 = false) := by
  unfold Pd.hexN
  by_cases h1 : 48 ≤ c.toNat ∧ c.toNat ≤ 57
  · rw [if_pos h1]; left; exact ⟨by omega, by omega, by simp only; omega, rfl⟩
  · rw [if_neg h1]
    by_cases h2 : 97 ≤ c.toNat ∧ c.toNat ≤ 102
    · rw [if_pos h2]; right; left; exact ⟨by omega, by omega, by simp only; omega, rfl⟩
    · rw [if_neg h2]
      by_cases h3 : 65 ≤ c.toNat ∧ c.toNat ≤ 70
      · rw [if_pos h3]; right; right; left; exact ⟨by omega, by omega, by simp only; omega, rfl⟩
      · rw [if_neg h3]; right; right; right; exact ⟨by omega, by omega, by omega, rfl, rfl⟩

set_option maxHeartbeats 400000 in
set_option maxRecDepth 100000 in
/-- hexValue at every byte. -/
theorem hexValue_any (c : UInt8) (w : World) :
    Calls Try.prog 17 #[.int .u8 (c.toNat : Int)] w fun e w' => e = .returned (.tuple #[.int .u8 ((Pd.hexN c).1 : Int), .bool (Pd.hexN c).2]) ∧ w' = w := by
  have key := hexN_case c
  have hc0 : (0 : Int) ≤ (c.toNat : Int) := by omega
  have hc : (c.toNat : Int) < 256 := by have := c.toNat_lt; omega
  suffices H : ∀ n : Int, n = (c.toNat : Int) → Calls Try.prog 17 #[.int .u8 n] w fun e w' => e = .returned (.tuple #[.int .u8 ((Pd.hexN c).1 : Int), .bool (Pd.hexN c).2]) ∧ w' = w from H _ rfl
  intro n hn
  rw [← hn] at key hc hc0
  clear hn
  have K := key
  have HK : Hid (
    (48 ≤ n ∧ n ≤ 57 ∧ ((Pd.hexN c).1 : Int) = n - 48 ∧ (Pd.hexN c).2 = true) ∨
    (97 ≤ n ∧ n ≤ 102 ∧ ((Pd.hexN c).1 : Int) = n - 97 + 10 ∧ (Pd.hexN c).2 = true) ∨
    (65 ≤ n ∧ n ≤ 70 ∧ ((Pd.hexN c).1 : Int) = n - 65 + 10 ∧ (Pd.hexN c).2 = true) ∨
    ((n < 48 ∨ 57 < n) ∧ (n < 97 ∨ 102 < n) ∧ (n < 65 ∨ 70 < n) ∧ ((Pd.hexN c).1 : Int) = 0 ∧ (Pd.hexN c).2 = false)) := key
  clear key K
  generalize Pd.hexN c = X at *
  go_enter Try.func17, Try.ntmps17
  go_wp2
  all_goals
    go_ret2
    obtain ⟨x, b⟩ := X
    have h := HK.out
    simp only at h
    rcases h with ⟨_, _, e1, e2⟩ | ⟨_, _, e1, e2⟩ | ⟨_, _, e1, e2⟩ | ⟨_, _, _, e1, e2⟩ <;> first | (exfalso; omega) | (simp [e1, e2])
end Go.Proofs.Qxb6606103a
