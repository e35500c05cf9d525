/-
  THE WALKS of zzEqualStrings and zzEqualBools at two slices that hold the same.
-/
import Derived.Test.Qxb6608706aFmtPieces
import Derived.BigQuiet
import Derived.Deep.QuietTactic
namespace Go.Proofs.Qxb6608706aFmt
open Go.RowKit

/-- A slice value that holds the texts of T: nil, where T is empty; else from a block's head on. -/
def StrsV (v : Value) (T : List Tp.Tok) (w : World) : Prop := (v = .slice none 0 0 ∧ T = []) ∨ ∃ g c, v = .slice (some ⟨g, 0, none⟩) T.length c ∧ Strs g T w
def BoolsV (v : Value) (T : List Tp.Tok) (w : World) : Prop := (v = .slice none 0 0 ∧ T = []) ∨ ∃ g c, v = .slice (some ⟨g, 0, none⟩) T.length c ∧ Bools g T w

set_option maxHeartbeats 1000000 in
set_option maxRecDepth 100000 in
theorem eqStrs_some (T : List Tp.Tok) (g1 c1 g2 c2 : Nat) (w : World) (h1 : Strs g1 T w) (h2 : Strs g2 T w) (hT : T.length ≤ 16777216) :
    Calls Tryf.prog 12 #[.slice (some ⟨g1, 0, none⟩) T.length c1, .slice (some ⟨g2, 0, none⟩) T.length c2] w fun e w' => e = .returned (.bool true) ∧ Below w.heap.size w w' := by
  have H1 : Hid (Strs g1 T w) := h1
  have H2 : Hid (Strs g2 T w) := h2
  clear h1 h2
  go_enter Tryf.func12, Tryf.ntmps12
  go_wp2_with fail
  go_loopw [5] (fun i wr => ∃ k : Nat, k ≤ T.length ∧ i = .int .i64 k ∧ Below w.heap.size w wr) (fun i _ => T.length - (intOf i).toNat)
  case atStart => exact ⟨0, Nat.zero_le _, rfl, Below.refl _ _⟩
  case round =>
    obtain ⟨k, hk, rfl, hb⟩ := hrel
    by_cases hlt : k < T.length
    · have c1 := (H1.out.below hb).cell k hlt
      have c2 := (H2.out.below hb).cell k hlt
      have hk0 : (0 : Int) ≤ (k : Int) := by omega
      have hk1 : (k : Int) < (T.length : Int) := by omega
      generalize T[k].1 = tx at *
      go_wp2_with fail
      go_quiet (fail)
      go_wp2
      go_roundw
      case rel => exact ⟨k + 1, hlt, by go_num, below_drewN hb _⟩
      case measure => simp [intOf]; omega
    · go_wp2
      go_ret
      exact ⟨rfl, hb⟩

set_option maxHeartbeats 1000000 in
set_option maxRecDepth 100000 in
theorem eqBools_some (T : List Tp.Tok) (g1 c1 g2 c2 : Nat) (w : World) (h1 : Bools g1 T w) (h2 : Bools g2 T w) (hT : T.length ≤ 16777216) :
    Calls Tryf.prog 13 #[.slice (some ⟨g1, 0, none⟩) T.length c1, .slice (some ⟨g2, 0, none⟩) T.length c2] w fun e w' => e = .returned (.bool true) ∧ Below w.heap.size w w' := by
  have H1 : Hid (Bools g1 T w) := h1
  have H2 : Hid (Bools g2 T w) := h2
  clear h1 h2
  go_enter Tryf.func13, Tryf.ntmps13
  go_wp2_with fail
  go_loopw [5] (fun i wr => ∃ k : Nat, k ≤ T.length ∧ i = .int .i64 k ∧ Below w.heap.size w wr) (fun i _ => T.length - (intOf i).toNat)
  case atStart => exact ⟨0, Nat.zero_le _, rfl, Below.refl _ _⟩
  case round =>
    obtain ⟨k, hk, rfl, hb⟩ := hrel
    by_cases hlt : k < T.length
    · have c1 := (H1.out.below hb).cell k hlt
      have c2 := (H2.out.below hb).cell k hlt
      have hk0 : (0 : Int) ≤ (k : Int) := by omega
      have hk1 : (k : Int) < (T.length : Int) := by omega
      generalize T[k].2 = tx at *
      go_wp2_with fail
      go_quiet (fail)
      go_wp2
      go_roundw
      case rel => exact ⟨k + 1, hlt, by go_num, below_drewN hb _⟩
      case measure => simp [intOf]; omega
    · go_wp2
      go_ret
      exact ⟨rfl, hb⟩

set_option maxHeartbeats 400000 in
set_option maxRecDepth 100000 in
theorem eqStrs_nil (g1 c1 : Nat) (w : World) :
    Calls Tryf.prog 12 #[.slice (some ⟨g1, 0, none⟩) 0 c1, .slice none 0 0] w fun e w' => e = .returned (.bool true) ∧ Below w.heap.size w w' := by
  go_enter Tryf.func12, Tryf.ntmps12
  go_wp2_with fail
  refine wp_loop_rounds 1 ?_
  rw [rounds_succ]
  go_wp2
  go_ret
  exact ⟨rfl, Below.refl _ _⟩
set_option maxHeartbeats 400000 in
set_option maxRecDepth 100000 in
theorem eqBools_nil (g1 c1 : Nat) (w : World) :
    Calls Tryf.prog 13 #[.slice (some ⟨g1, 0, none⟩) 0 c1, .slice none 0 0] w fun e w' => e = .returned (.bool true) ∧ Below w.heap.size w w' := by
  go_enter Tryf.func13, Tryf.ntmps13
  go_wp2_with fail
  refine wp_loop_rounds 1 ?_
  rw [rounds_succ]
  go_wp2
  go_ret
  exact ⟨rfl, Below.refl _ _⟩

theorem eqStrs_any (T : List Tp.Tok) (g1 c1 : Nat) (v : Value) (w : World) (h1 : Strs g1 T w) (h2 : StrsV v T w) (hT : T.length ≤ 16777216) :
    Calls Tryf.prog 12 #[.slice (some ⟨g1, 0, none⟩) T.length c1, v] w fun e w' => e = .returned (.bool true) ∧ Below w.heap.size w w' := by
  rcases h2 with ⟨rfl, rfl⟩ | ⟨g2, c2, rfl, h2⟩
  · exact eqStrs_nil g1 c1 w
  · exact eqStrs_some T g1 c1 g2 c2 w h1 h2 hT
theorem eqBools_any (T : List Tp.Tok) (g1 c1 : Nat) (v : Value) (w : World) (h1 : Bools g1 T w) (h2 : BoolsV v T w) (hT : T.length ≤ 16777216) :
    Calls Tryf.prog 13 #[.slice (some ⟨g1, 0, none⟩) T.length c1, v] w fun e w' => e = .returned (.bool true) ∧ Below w.heap.size w w' := by
  rcases h2 with ⟨rfl, rfl⟩ | ⟨g2, c2, rfl, h2⟩
  · exact eqBools_nil g1 c1 w
  · exact eqBools_some T g1 c1 g2 c2 w h1 h2 hT
end Go.Proofs.Qxb6608706aFmt
