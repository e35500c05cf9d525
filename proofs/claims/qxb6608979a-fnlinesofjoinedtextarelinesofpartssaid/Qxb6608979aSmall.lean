/-
  withoutCR, slices.Index, zzSameRunes.
-/
import Derived.Test.Qxb6608979aProg
import Derived.Test.Qxb6608979aChecked
import Derived.Test.Qxb6608979aPlain
import Derived.WalkKit
import Derived.Below
import Derived.BigQuiet
import Derived.Deep.QuietTactic
namespace Go.Proofs.Qxb6608979a
open Go.RowKit

/-- The cells hold these code points (where there are any). -/
def Runes (W : World) (a : Option Addr) (l : List Int) : Prop :=
  0 < l.length → ∃ R o, a = some ⟨R, o, none⟩ ∧ R < W.heap.size ∧ ∀ m (h : m < l.length), W.cell? ⟨R, o + m, none⟩ = some (.int .i32 l[m])
theorem Runes.below {W W' : World} {a : Option Addr} {l : List Int} (h : Runes W a l) (hb : Below W.heap.size W W') : Runes W' a l := fun hp => by
  obtain ⟨R, o, rfl, hR, hc⟩ := h hp
  exact ⟨R, o, rfl, by have := hb.size; omega, fun m hm => by rw [hb.cell hR]; exact hc m hm⟩
theorem Runes.take {W : World} {a : Option Addr} {l : List Int} (h : Runes W a l) (k : Nat) : Runes W a (l.take k) := fun hp => by
  obtain ⟨R, o, rfl, hR, hc⟩ := h (by simp only [List.length_take] at hp; omega)
  exact ⟨R, o, rfl, hR, fun m hm => by simp only [List.getElem_take]; exact hc m (by simp only [List.length_take] at hm; omega)⟩

set_option maxRecDepth 100000 in
theorem withoutCR_any (a : Option Addr) (c : Nat) (l : List Int) (w : World) (h : Runes w a l) (hc : l.length ≤ c) (hm : l.length ≤ 16777216) :
    Calls Try.prog 15 #[.slice a l.length c] w fun e w' => (∃ k, e = .returned (.slice a k c) ∧ k ≤ l.length ∧ cr l = l.take k) ∧ w' = w := by
  by_cases hl : l.length = 0
  · obtain rfl := List.length_eq_zero_iff.1 hl
    clear h hl
    go_enter Try.func15, Try.ntmps15
    go_wp2
    go_ret
    exact ⟨⟨0, rfl, Nat.le_refl _, by simp [cr]⟩, rfl⟩
  · obtain ⟨R, o, rfl, hR, hcell⟩ := h (by omega)
    have hlast : l.getLast? = some (l[l.length - 1]'(by omega)) := by rw [List.getLast?_eq_getElem?, List.getElem?_eq_getElem (by omega)]
    have e1 := hcell (l.length - 1) (by omega)
    have HCR : Hid (cr l = if l[l.length - 1]'(by omega) = 13 then l.dropLast else l) := by
      show cr l = _
      unfold cr; rw [hlast]; simp
    clear h hcell hlast
    generalize l[l.length - 1]'(by omega) = x at *
    have k0 : (0 : Int) < (l.length : Int) := by omega
    have k1 : IntKind.i64.wrap ((l.length : Int) - 1) = (l.length : Int) - 1 := by rw [IntKind.wrap_i64]; omega
    have k2 : (0 : Int) ≤ (l.length : Int) - 1 := by omega
    have k3 : (l.length : Int) - 1 < (l.length : Int) := by omega
    have k4 : ((l.length : Int) - 1).toNat = l.length - 1 := by omega
    have k5 : (l.length : Int) - 1 ≤ (c : Int) := by omega
    by_cases hx : x = 13
    · have hx' : (x == 13) = true := by simp [hx]
      have HK : Hid (cr l = l.dropLast) := by have := HCR.out; rw [if_pos hx] at this; exact this
      clear HCR hx
      go_enter Try.func15, Try.ntmps15
      go_wp2
      go_ret
      exact ⟨⟨l.length - 1, rfl, by omega, by rw [HK.out, List.dropLast_eq_take]⟩, rfl⟩
    · have hx' : (x == 13) = false := by simp [hx]
      have HK : Hid (cr l = l) := by have := HCR.out; rw [if_neg hx] at this; exact this
      clear HCR hx
      go_enter Try.func15, Try.ntmps15
      go_wp2
      go_ret
      exact ⟨⟨l.length, rfl, Nat.le_refl _, by rw [HK.out]; simp⟩, rfl⟩

theorem withoutCR_n (a : Option Addr) (c n : Nat) (l : List Int) (w : World) (hn : l.length = n) (h : Runes w a l) (hc : n ≤ c) (hm : n ≤ 16777216) :
    Calls Try.prog 15 #[.slice a n c] w fun e w' => (∃ k, e = .returned (.slice a k c) ∧ k ≤ n ∧ cr l = l.take k) ∧ w' = w := by
  subst hn; exact withoutCR_any a c l w h hc hm

set_option maxRecDepth 100000 in
theorem index_any (a : Option Addr) (c : Nat) (l : List Int) (w : World) (h : Runes w a l) (hm : l.length ≤ 16777216) :
    Calls Try.prog 14 #[.slice a l.length c, .int .i32 10] w fun e w' => e = .returned (.int .i64 (if pos l < l.length then (pos l : Int) else -1)) ∧ w' = w := by
  by_cases hl : l.length = 0
  · obtain rfl := List.length_eq_zero_iff.1 hl
    clear h hl
    go_enter Try.func14, Try.ntmps14
    go_wp2_with fail
    refine wp_loop_rounds 1 ?_
    rw [rounds_succ]
    go_wp2
    go_ret
    exact ⟨by simp, rfl⟩
  · obtain ⟨R, o, rfl, hR, hcell⟩ := h (by omega)
    have hple := pos_le l
    have HNE : Hid (∀ k, k < pos l → ∃ x, w.cell? ⟨R, o + k, none⟩ = some (.int .i32 x) ∧ ((10 : Int) == x) = false) := fun k hk =>
      ⟨_, hcell k (by omega), by rw [beq_eq_false_iff_ne]; exact (pos_ne l k hk (by omega)).symm⟩
    have HEQ : Hid (pos l < l.length → w.cell? ⟨R, o + pos l, none⟩ = some (.int .i32 10)) := fun hk => by
      rw [hcell (pos l) hk, pos_eq l hk]
    clear h hcell
    generalize pos l = p at *
    go_enter Try.func14, Try.ntmps14
    go_wp2_with fail
    go_loop [5, 8] (fun _ i => ∃ k : Nat, k ≤ p ∧ i = .int .i64 k) (fun _ i => l.length - (intOf i).toNat)
    case atStart => exact ⟨0, Nat.zero_le _, rfl⟩
    case round =>
      obtain ⟨k, hk, rfl⟩ := hrel
      by_cases hlt : k < p
      · obtain ⟨x, hx, hx0⟩ := HNE.out k hlt
        have hkl : k < l.length := by omega
        go_wp2
        go_round
        case rel => exact ⟨k + 1, hlt, by go_num⟩
        case measure => simp [intOf]; omega
      · obtain rfl : k = p := by omega
        by_cases hkl : k < l.length
        · have hx := HEQ.out hkl
          go_wp2
          go_ret
          exact ⟨by simp, rfl⟩
        · go_wp2
          go_ret
          exact ⟨by simp, rfl⟩

set_option maxRecDepth 100000 in
theorem same_any (a b : Option Addr) (c d : Nat) (l : List Int) (w : World) (ha : Runes w a l) (hb : Runes w b l) (hm : l.length ≤ 16777216) :
    Calls Try.prog 8 #[.slice a l.length c, .slice b l.length d] w fun e w' => e = .returned (.bool true) ∧ ∃ q, w' = w.drewN q := by
  by_cases hl : l.length = 0
  · obtain rfl := List.length_eq_zero_iff.1 hl
    clear ha hb hl
    go_enter Try.func8, Try.ntmps8
    go_wp2_with fail
    refine wp_loop_rounds 1 ?_
    rw [rounds_succ]
    go_wp2
    go_ret
    exact ⟨rfl, 0, rfl⟩
  · obtain ⟨R, o, rfl, hR, hca⟩ := ha (by omega)
    obtain ⟨R2, o2, rfl, hR2, hcb⟩ := hb (by omega)
    have HA : Hid (∀ m (h : m < l.length), w.cell? ⟨R, o + m, none⟩ = some (.int .i32 l[m])) := hca
    have HB : Hid (∀ m (h : m < l.length), w.cell? ⟨R2, o2 + m, none⟩ = some (.int .i32 l[m])) := hcb
    clear ha hb hca hcb
    go_enter Try.func8, Try.ntmps8
    go_wp2_with fail
    go_loopw [5] (fun i wr => ∃ k : Nat, k ≤ l.length ∧ i = .int .i64 k ∧ ∃ q, wr = w.drewN q) (fun i _ => l.length - (intOf i).toNat)
    case atStart => exact ⟨0, Nat.zero_le _, rfl, 0, rfl⟩
    case round =>
      obtain ⟨k, hk, rfl, q, rfl⟩ := hrel
      by_cases hlt : k < l.length
      · have h1 := HA.out k hlt
        have h2 := HB.out k hlt
        generalize l[k] = x at *
        have k1 : (k : Int) < (l.length : Int) := by omega
        have k0 : (0 : Int) ≤ (k : Int) := by omega
        go_wp2_with fail
        go_quiet (fail)
        go_wp2
        go_roundw
        case rel => exact ⟨k + 1, hlt, by go_num, _, rfl⟩
        case measure => simp [intOf]; omega
      · go_wp2
        go_ret
        exact ⟨rfl, q, rfl⟩
end Go.Proofs.Qxb6608979a
