/-
  THE SMALL FUNCTIONS: the two dates, IsZero, le16, le32.
-/
import Derived.WalkKit
import Derived.ProofKit
import Derived.Below
import Derived.BigQuiet
import Derived.Deep.QuietTactic
import Derived.Lib.Endian
import Derived.Lib.EndianBits
import Derived.Test.Qxb6608875aProg
import Derived.Test.Qxb6608875aChecked
namespace Go.Proofs.Qxb6608875a
open Go.RowKit

def dateV (y m d : UInt8) : Value := if (y.toNat = 0 ∧ m.toNat = 0) ∧ d.toNat = 0 then .agg #[.int .i64 0, .int .i64 0, .int .i64 0] else .agg #[.int .i64 (1900 + y.toNat), .int .i64 m.toNat, .int .i64 d.toNat]

set_option maxRecDepth 100000 in
theorem modelDate_any (y m d : UInt8) (w : World) :
    Calls Try.prog 7 #[.int .u8 y.toNat, .int .u8 m.toNat, .int .u8 d.toNat] w fun e w' => e = .returned (dateV y m d) ∧ Below w.heap.size w w' := by
  have hy : y.toNat < 256 := y.toNat_lt
  have hm : m.toNat < 256 := m.toNat_lt
  have hd : d.toNat < 256 := d.toNat_lt
  unfold dateV
  generalize y.toNat = y at *
  generalize m.toNat = m at *
  generalize d.toNat = d at *
  by_cases h1 : y = 0
  · by_cases h2 : m = 0
    · by_cases h3 : d = 0
      · subst h1 h2 h3
        rw [if_pos (by simp)]
        go_enter Try.func7, Try.ntmps7
        go_wp2
        refine bodyPost_ret (v := .agg #[.int .i64 0, .int .i64 0, .int .i64 0]) (by simp [results, Try.results7, go_sem]) rfl ⟨rfl, (Below.refl _ w).alloc (Nat.le_refl _) _⟩
      · rw [if_neg (by simp [h3])]
        have h4 : ((d : Int) == 0) = false := by rw [beq_eq_false_iff_ne]; omega
        subst h1 h2
        go_enter Try.func7, Try.ntmps7
        go_wp2
        refine bodyPost_ret (v := .agg #[.int .i64 (1900 + ((0 : Nat) : Int)), .int .i64 ((0 : Nat) : Int), .int .i64 d]) (by simp [results, Try.results7, go_sem]) rfl ⟨rfl, (Below.refl _ w).alloc (Nat.le_refl _) _⟩
    · rw [if_neg (by simp [h2])]
      have h4 : ((m : Int) == 0) = false := by rw [beq_eq_false_iff_ne]; omega
      subst h1
      go_enter Try.func7, Try.ntmps7
      go_wp2
      refine bodyPost_ret (v := .agg #[.int .i64 (1900 + ((0 : Nat) : Int)), .int .i64 m, .int .i64 d]) (by simp [results, Try.results7, go_sem]) rfl ⟨rfl, (Below.refl _ w).alloc (Nat.le_refl _) _⟩
  · rw [if_neg (by simp [h1])]
    have h4 : ((y : Int) == 0) = false := by rw [beq_eq_false_iff_ne]; omega
    go_enter Try.func7, Try.ntmps7
    go_wp2
    refine bodyPost_ret (v := .agg #[.int .i64 (1900 + y), .int .i64 m, .int .i64 d]) (by simp [results, Try.results7, go_sem]) rfl ⟨rfl, (Below.refl _ w).alloc (Nat.le_refl _) _⟩

set_option maxRecDepth 100000 in
theorem storedDate_any (y m d : UInt8) (w : World) :
    Calls Try.prog 14 #[.int .u8 y.toNat, .int .u8 m.toNat, .int .u8 d.toNat] w fun e w' => e = .returned (dateV y m d) ∧ Below w.heap.size w w' := by
  have hy : y.toNat < 256 := y.toNat_lt
  have hm : m.toNat < 256 := m.toNat_lt
  have hd : d.toNat < 256 := d.toNat_lt
  unfold dateV
  generalize y.toNat = y at *
  generalize m.toNat = m at *
  generalize d.toNat = d at *
  by_cases h1 : y = 0
  · by_cases h2 : m = 0
    · by_cases h3 : d = 0
      · subst h1 h2 h3
        rw [if_pos (by simp)]
        go_enter Try.func14, Try.ntmps14
        go_wp2
        refine bodyPost_ret (v := .agg #[.int .i64 0, .int .i64 0, .int .i64 0]) (by simp [results, Try.results14, go_sem]) rfl ⟨rfl, (Below.refl _ w).alloc (Nat.le_refl _) _⟩
      · rw [if_neg (by simp [h3])]
        have h4 : ((d : Int) == 0) = false := by rw [beq_eq_false_iff_ne]; omega
        subst h1 h2
        go_enter Try.func14, Try.ntmps14
        go_wp2
        refine bodyPost_ret (v := .agg #[.int .i64 (1900 + ((0 : Nat) : Int)), .int .i64 ((0 : Nat) : Int), .int .i64 d]) (by simp [results, Try.results14, go_sem]) rfl ⟨rfl, (Below.refl _ w).alloc (Nat.le_refl _) _⟩
    · rw [if_neg (by simp [h2])]
      have h4 : ((m : Int) == 0) = false := by rw [beq_eq_false_iff_ne]; omega
      subst h1
      go_enter Try.func14, Try.ntmps14
      go_wp2
      refine bodyPost_ret (v := .agg #[.int .i64 (1900 + ((0 : Nat) : Int)), .int .i64 m, .int .i64 d]) (by simp [results, Try.results14, go_sem]) rfl ⟨rfl, (Below.refl _ w).alloc (Nat.le_refl _) _⟩
  · rw [if_neg (by simp [h1])]
    have h4 : ((y : Int) == 0) = false := by rw [beq_eq_false_iff_ne]; omega
    go_enter Try.func14, Try.ntmps14
    go_wp2
    refine bodyPost_ret (v := .agg #[.int .i64 (1900 + y), .int .i64 m, .int .i64 d]) (by simp [results, Try.results14, go_sem]) rfl ⟨rfl, (Below.refl _ w).alloc (Nat.le_refl _) _⟩


/-- Is it no date? -/
def noDate (y m d : UInt8) : Bool := decide ((y.toNat = 0 ∧ m.toNat = 0) ∧ d.toNat = 0)

set_option maxRecDepth 100000 in
theorem isZero_any (y m d : UInt8) (w : World) :
    Calls Try.prog 6 #[dateV y m d] w fun e w' => e = .returned (.bool (noDate y m d)) ∧ Below w.heap.size w w' := by
  unfold dateV noDate
  by_cases h : (y.toNat = 0 ∧ m.toNat = 0) ∧ d.toNat = 0
  · rw [if_pos h]
    have hd : decide ((y.toNat = 0 ∧ m.toNat = 0) ∧ d.toNat = 0) = true := decide_eq_true h
    rw [hd]
    clear hd h
    go_enter Try.func6, Try.ntmps6
    go_wp2
    go_ret
    exact ⟨rfl, (Below.refl _ w).alloc (Nat.le_refl _) _⟩
  · rw [if_neg h]
    have hd : decide ((y.toNat = 0 ∧ m.toNat = 0) ∧ d.toNat = 0) = false := decide_eq_false h
    rw [hd]
    clear hd h
    have h4 : ((1900 + (y.toNat : Int)) == 0) = false := by rw [beq_eq_false_iff_ne]; omega
    go_enter Try.func6, Try.ntmps6
    go_wp2
    go_ret
    exact ⟨rfl, (Below.refl _ w).alloc (Nat.le_refl _) _⟩

/-- The bytes of a row of its own. -/
def Byt (G : Nat) (bs : List UInt8) (w : World) : Prop := G < w.heap.size ∧ ∀ j (h : j < bs.length), w.cell? ⟨G, j, none⟩ = some (.int .u8 (bs[j].toNat : Int))
theorem Byt.below {G : Nat} {bs : List UInt8} {w w' : World} (h : Byt G bs w) (hb : Below w.heap.size w w') : Byt G bs w' :=
  ⟨by have := h.1; have := hb.size; omega, fun j hj => by rw [← h.2 j hj]; exact hb.cell h.1⟩

def bt (bs : List UInt8) (j : Nat) : UInt8 := bs.getD j 0
theorem Byt.cell {G : Nat} {bs : List UInt8} {w : World} (h : Byt G bs w) (j : Nat) (hj : j < bs.length) : w.cell? ⟨G, j, none⟩ = some (.int .u8 ((bt bs j).toNat : Int)) := by
  rw [h.2 j hj]; simp [bt, List.getD, hj]

theorem i64_or8 {x y : Int} (hy₀ : 0 ≤ y) (hy : y < 256) (hx₀ : 0 ≤ x) (hx : x % 256 = 0) (hx₁ : x < 65536) : bits .or .i64 y x = y + x :=
  bits_join_low .i64 63 (by decide) (fun n h0 h1 => by rw [IntKind.wrap_i64]; omega) 8 y x hy₀ hy (by omega) hx₀ hx (by omega)

theorem hv16 (b0 b1 : UInt8) : ((Lib.leNat [b0, b1] : Nat) : Int) = (b0.toNat : Int) + (b1.toNat : Int) * 256 := by
  simp only [Lib.leNat, Nat.mul_zero, Nat.add_zero]
  omega
theorem hv32 (b0 b1 b2 b3 : UInt8) : ((Lib.leNat [b0, b1, b2, b3] : Nat) : Int) = (b0.toNat : Int) + (b1.toNat : Int) * 256 + (b2.toNat : Int) * 65536 + (b3.toNat : Int) * 16777216 := by
  simp only [Lib.leNat, Nat.mul_zero, Nat.add_zero]
  omega

theorem le16_any (G n c i : Nat) (b0 b1 : UInt8) (w : World) (hn : i + 1 < n) (hi : i ≤ 64)
    (c0 : w.cell? ⟨G, i, none⟩ = some (.int .u8 b0.toNat)) (c1 : w.cell? ⟨G, i + 1, none⟩ = some (.int .u8 b1.toNat)) :
    Calls Try.prog 9 #[.slice (some ⟨G, 0, none⟩) n c, .int .i64 i] w fun e w' => e = .returned (.int .i64 (Lib.leNat [b0, b1])) ∧ ∃ q, w' = w.drewN q := by
  have h0 : b0.toNat < 256 := b0.toNat_lt
  have h1 : b1.toNat < 256 := b1.toNat_lt
  have k0 : (0 : Int) ≤ (i : Int) := by omega
  have k1 : (i : Int) < (n : Int) := by omega
  have k2 : (0 : Int) ≤ (i : Int) + 1 := by omega
  have k3 : (i : Int) + 1 < (n : Int) := by omega
  have k4 : ((i : Int) + 1).toNat = i + 1 := by omega
  have k5 : IntKind.i64.wrap ((i : Int) + 1) = (i : Int) + 1 := by rw [IntKind.wrap_i64]; omega
  go_enter Try.func9, Try.ntmps9
  go_wp2_with fail
  go_quiet (fail)
  go_wp2
  go_ret
  refine ⟨?_, _, rfl⟩
  show Ending.returned (.int .i64 (bits .or .i64 (b0.toNat : Int) ((b1.toNat : Int) * 256))) = _
  rw [i64_or8 (by omega) (by omega) (by omega) (by omega) (by omega), hv16]

theorem le32_any (G n c i : Nat) (b0 b1 b2 b3 : UInt8) (w : World) (hn : i + 3 < n) (hi : i ≤ 64)
    (c0 : w.cell? ⟨G, i, none⟩ = some (.int .u8 b0.toNat)) (c1 : w.cell? ⟨G, i + 1, none⟩ = some (.int .u8 b1.toNat)) (c2 : w.cell? ⟨G, i + 2, none⟩ = some (.int .u8 b2.toNat)) (c3 : w.cell? ⟨G, i + 3, none⟩ = some (.int .u8 b3.toNat)) :
    Calls Try.prog 8 #[.slice (some ⟨G, 0, none⟩) n c, .int .i64 i] w fun e w' => e = .returned (.int .u32 (Lib.leNat [b0, b1, b2, b3])) ∧ ∃ q, w' = w.drewN q := by
  have h0 : b0.toNat < 256 := b0.toNat_lt
  have h1 : b1.toNat < 256 := b1.toNat_lt
  have h2 : b2.toNat < 256 := b2.toNat_lt
  have h3 : b3.toNat < 256 := b3.toNat_lt
  have k0 : (0 : Int) ≤ (i : Int) := by omega
  have k1 : (i : Int) < (n : Int) := by omega
  have k2 : (0 : Int) ≤ (i : Int) + 1 := by omega
  have k3 : (i : Int) + 1 < (n : Int) := by omega
  have k4 : ((i : Int) + 1).toNat = i + 1 := by omega
  have k5 : IntKind.i64.wrap ((i : Int) + 1) = (i : Int) + 1 := by rw [IntKind.wrap_i64]; omega
  have k22 : (0 : Int) ≤ (i : Int) + 2 := by omega
  have k23 : (i : Int) + 2 < (n : Int) := by omega
  have k24 : ((i : Int) + 2).toNat = i + 2 := by omega
  have k25 : IntKind.i64.wrap ((i : Int) + 2) = (i : Int) + 2 := by rw [IntKind.wrap_i64]; omega
  have k32 : (0 : Int) ≤ (i : Int) + 3 := by omega
  have k33 : (i : Int) + 3 < (n : Int) := by omega
  have k34 : ((i : Int) + 3).toNat = i + 3 := by omega
  have k35 : IntKind.i64.wrap ((i : Int) + 3) = (i : Int) + 3 := by rw [IntKind.wrap_i64]; omega
  go_enter Try.func8, Try.ntmps8
  go_wp2_with fail
  go_quiet (fail)
  go_wp2
  go_ret
  refine ⟨?_, _, rfl⟩
  show Ending.returned (.int .u32 (bits .or .u32 (bits .or .u32 (bits .or .u32 (b0.toNat : Int) ((b1.toNat : Int) * 256)) ((b2.toNat : Int) * 65536)) ((b3.toNat : Int) * 16777216))) = _
  simp (disch := omega) only [u32_or8, u32_or16, u32_or24]
  rw [hv32]
end Go.Proofs.Qxb6608875a
