/-
  bytes.IndexByte, bytes.Index and bytes.Cut at the separator of one zero byte; nameBeforeZero.
-/
import Derived.Test.Qxb6608875aParts
import Derived.Lib.BytesEntry
import Derived.Lib.Walk
import Derived.Laws.BytesArg
import Derived.OwnWalk
namespace Go.Proofs.Qxb6608875a
open Go.RowKit

/-- What stands ahead of the first zero byte. -/
def nm (l : List UInt8) : List UInt8 := l.takeWhile (· != 0)

theorem nm_le (l : List UInt8) : (nm l).length ≤ l.length := (List.takeWhile_sublist _).length_le
theorem nm_take : ∀ l : List UInt8, l.take (nm l).length = nm l
  | [] => rfl
  | b :: l => by
    unfold nm
    rw [List.takeWhile_cons]
    split
    · simp only [List.length_cons, List.take_succ_cons]; rw [show (l.takeWhile (· != 0)) = nm l from rfl, nm_take l]
    · simp
theorem idx_nm : ∀ l : List UInt8, Lib.indexByte l 0 = if (nm l).length < l.length then ((nm l).length : Int) else -1
  | [] => rfl
  | b :: l => by
    have ih := idx_nm l
    by_cases hb : b = 0
    · subst hb; simp [nm, Lib.indexByte]
    · have e : Lib.indexByte (b :: l) 0 = (if Lib.indexByte l 0 == -1 then -1 else Lib.indexByte l 0 + 1) := by
        show (if (b == 0) = true then _ else _) = _
        rw [if_neg (by simp [hb])]
      have h2 : nm (b :: l) = b :: nm l := by unfold nm; rw [List.takeWhile_cons]; simp [hb]
      rw [e, h2]
      simp only [List.length_cons]
      by_cases hl : (nm l).length < l.length
      · rw [if_pos hl] at ih
        have h3 : ¬ ((((nm l).length : Int) == -1) = true) := by simp
        rw [ih, if_neg h3, if_pos (by omega)]; simp
      · rw [if_neg hl] at ih
        rw [ih, if_pos (by rfl), if_neg (by omega)]

theorem nm_ne : ∀ (l : List UInt8) (k : Nat) (_ : k < (nm l).length) (h' : k < l.length), l[k] ≠ 0
  | [], k, _, h' => by simp at h'
  | b :: l, k, h, h' => by
    by_cases hb : b = 0
    · subst hb; simp [nm] at h
    · have h2 : nm (b :: l) = b :: nm l := by unfold nm; rw [List.takeWhile_cons]; simp [hb]
      cases k with
      | zero => simpa using hb
      | succ k =>
        rw [h2] at h
        simp only [List.getElem_cons_succ]
        exact nm_ne l k (by simpa using h) _
theorem nm_eq : ∀ (l : List UInt8) (k : Nat) (_ : k = (nm l).length) (h' : k < l.length), l[k] = 0
  | [], k, _, h' => by simp at h'
  | b :: l, k, h, h' => by
    by_cases hb : b = 0
    · subst hb
      have : k = 0 := by simpa [nm] using h
      subst this; rfl
    · have h2 : nm (b :: l) = b :: nm l := by unfold nm; rw [List.takeWhile_cons]; simp [hb]
      rw [h2] at h
      obtain ⟨m, rfl⟩ : ∃ m, k = m + 1 := ⟨k - 1, by simp at h; omega⟩
      simp only [List.getElem_cons_succ]
      exact nm_eq l m (by simpa using h) _

theorem bytesOf_toNat (l : List UInt8) : Lib.bytesOf (l.map fun b => (b.toNat : Int)) = l := by
  simp only [Lib.bytesOf, List.map_map]
  conv => rhs; rw [← List.map_id l]
  apply List.map_congr_left
  intro b _
  simp

set_option maxHeartbeats 1000000 in
set_option maxRecDepth 100000 in
theorem indexByte_any (b o n c : Nat) (l : List UInt8) (w : World) (hn : l.length = n) (hc : ∀ i (h : i < l.length), w.cell? ⟨b, o + i, none⟩ = some (.int .u8 (l[i].toNat : Int))) :
    Calls Try.prog 18 #[.slice (some ⟨b, o, none⟩) n c, .int .u8 0] w fun e w' => e = .returned (.int .i64 (Lib.indexByte l 0)) ∧ w' = w := by
  have hrun := Lib.run_indexByteSlice (P := Try.prog) w b o n c (l.map fun b => (b.toNat : Int)) (by simpa using hn) (fun i hi => by rw [hc i (by omega)]; simp [List.getD, hn ▸ hi]) 0
  rw [bytesOf_toNat] at hrun
  have hrun2 : (Extern.BytealgIndexByte.indexByte #[.slice (some ⟨b, o, none⟩) n c, .int .u8 0]).run Try.prog w = .ok (.int .i64 (Lib.indexByte l 0)) w := hrun
  clear hrun
  go_enter Try.func18, Try.ntmps18
  go_wp2
  rw [run_callFunc_extern Try.func23 (by kernel_rfl) (by kernel_rfl) (by kernel_rfl) (e := Extern.BytealgIndexByte.indexByte) (by kernel_rfl), hrun2]
  simp only [Result.andThen]
  rw [Oper.upon_value]
  go_wp2
  go_ret
  exact ⟨rfl, rfl⟩

set_option maxHeartbeats 1000000 in
set_option maxRecDepth 100000 in
theorem index_any (b o n c : Nat) (H c2 : Nat) (l : List UInt8) (w : World) (hn : l.length = n) (hc : ∀ i (h : i < l.length), w.cell? ⟨b, o + i, none⟩ = some (.int .u8 (l[i].toNat : Int)))
    (h0 : w.cell? ⟨H, 0, none⟩ = some (.int .u8 0)) :
    Calls Try.prog 17 #[.slice (some ⟨b, o, none⟩) n c, .slice (some ⟨H, 0, none⟩) 1 c2] w fun e w' => e = .returned (.int .i64 (Lib.indexByte l 0)) ∧ w' = w := by
  have HC : Hid (∀ i (h : i < l.length), w.cell? ⟨b, o + i, none⟩ = some (.int .u8 (l[i].toNat : Int))) := hc
  clear hc
  go_enter Try.func17, Try.ntmps17
  go_wp2_with (go_at_call 18; refine (indexByte_any b o n c l _ hn HC.out).mono ?_; rintro e w' ⟨rfl, rfl⟩)
  go_ret
  exact ⟨rfl, rfl⟩

set_option maxHeartbeats 1000000 in
set_option maxRecDepth 100000 in
theorem cut_any (b o n c : Nat) (H c2 : Nat) (l : List UInt8) (w : World) (hn : l.length = n) (hc : ∀ i (h : i < l.length), w.cell? ⟨b, o + i, none⟩ = some (.int .u8 (l[i].toNat : Int)))
    (h0 : w.cell? ⟨H, 0, none⟩ = some (.int .u8 0)) (hcap : n < c) (hmax : n ≤ 64) :
    Calls Try.prog 13 #[.slice (some ⟨b, o, none⟩) n c, .slice (some ⟨H, 0, none⟩) 1 c2] w fun e w' => (∃ v2 v3, e = .returned (.tuple #[.slice (some ⟨b, o, none⟩) (nm l).length c, v2, v3])) ∧ ∃ q, w' = w.drewN q := by
  have HC : Hid (∀ i (h : i < l.length), w.cell? ⟨b, o + i, none⟩ = some (.int .u8 (l[i].toNat : Int))) := hc
  have HI : Hid (Lib.indexByte l 0 = if (nm l).length < l.length then ((nm l).length : Int) else -1) := idx_nm l
  clear hc
  have hle := nm_le l
  by_cases hlt : (nm l).length < l.length
  · have HI2 : Hid (Lib.indexByte l 0 = ((nm l).length : Int)) := by have := HI.out; rw [if_pos hlt] at this; exact this
    clear HI
    generalize (nm l).length = k at *
    have k0 : (0 : Int) ≤ (k : Int) := by omega
    have k1 : (k : Int) ≤ (c : Int) := by omega
    have k2 : IntKind.i64.wrap ((k : Int) + 1) = (k : Int) + 1 := by rw [IntKind.wrap_i64]; omega
    have k3 : (0 : Int) ≤ (k : Int) + 1 := by omega
    have k4 : (k : Int) + 1 ≤ (n : Int) := by omega
    have k5 : ((k : Int) + 1).toNat = k + 1 := by omega
    have k6 : (n : Int) ≤ (c : Int) := by omega
    have k7 : ¬ (c = k + 1) := by omega
    go_enter Try.func13, Try.ntmps13
    go_wp2_with fail
    refine (index_any b o n c H c2 l _ hn HC.out h0).mono ?_
    rintro e w' ⟨rfl, rfl⟩
    rw [HI2.out]
    go_wp2_with fail
    go_quiet (fail)
    go_wp2
    go_ret3
    exact ⟨⟨_, _, rfl⟩, _, rfl⟩
  · have HI2 : Hid (Lib.indexByte l 0 = -1) := by have := HI.out; rw [if_neg hlt] at this; exact this
    clear HI
    have hk : (nm l).length = n := by omega
    rw [hk]
    go_enter Try.func13, Try.ntmps13
    go_wp2_with fail
    refine (index_any b o n c H c2 l _ hn HC.out h0).mono ?_
    rintro e w' ⟨rfl, rfl⟩
    rw [HI2.out]
    go_wp2
    go_ret3
    exact ⟨⟨_, _, rfl⟩, 0, rfl⟩

/-- The 32 bytes from byte 32 on. -/
def mid (bs : List UInt8) : List UInt8 := (bs.drop 32).take 32
theorem mid_len (bs : List UInt8) (h : 68 ≤ bs.length) : (mid bs).length = 32 := by simp [mid]; omega
theorem mid_at (bs : List UInt8) (k : Nat) (h : k < (mid bs).length) (h2 : 32 + k < bs.length) : (mid bs)[k] = bs[32 + k] := by simp [mid]
theorem Byt.mid {G : Nat} {bs : List UInt8} {w : World} (h : Byt G bs w) (k : Nat) (hk : k < (mid bs).length) : w.cell? ⟨G, 32 + k, none⟩ = some (.int .u8 ((Qxb6608875a.mid bs)[k].toNat : Int)) := by
  have h2 : 32 + k < bs.length := by simp only [Qxb6608875a.mid, List.length_take, List.length_drop] at hk; omega
  rw [h.2 (32 + k) h2, mid_at bs k hk h2]

theorem toNat_ne (b : UInt8) (h : b ≠ 0) : (((b.toNat : Int)) == 0) = false := by
  rw [beq_eq_false_iff_ne]
  intro e
  apply h
  apply UInt8.toNat_inj.1
  show b.toNat = 0
  omega

theorem name_conv (G : Nat) (bs : List UInt8) (w : World) (hB : Byt G bs w) (m : Nat) (h68 : 68 ≤ bs.length) :
    (convert 22 9 (.slice (some ⟨G, 32, none⟩) (nm (mid bs)).length m)).run Try.prog w = .ok (.string ⟨(nm (mid bs)).toArray⟩) w := by
  have hml := mid_len bs h68
  have hle := nm_le (mid bs)
  refine run_convert_bytes_back w 22 9 5 ⟨G, 32, none⟩ m (nm (mid bs)) Try.underlying22 Try.underlying5 Try.underlying9 (fun j hj => ?_)
  have h1 := hB.mid j (by omega)
  have e : (⟨G, 32, none⟩ : Addr).add j = ⟨G, 32 + j, none⟩ := by unfold Addr.add; split <;> simp_all
  rw [e, h1]
  have h2 : (nm (mid bs))[j] = (mid bs)[j]'(by omega) := by
    have h3 : (nm (mid bs))[j]? = (mid bs)[j]? := by rw [← nm_take (mid bs)]; rw [List.getElem?_take]; simp [hj]
    rw [List.getElem?_eq_getElem hj, List.getElem?_eq_getElem (by omega)] at h3
    exact Option.some.inj h3
  rw [h2]

set_option maxHeartbeats 1000000 in
set_option maxRecDepth 100000 in
theorem name_any (G n c : Nat) (bs : List UInt8) (w : World) (hB : Byt G bs w) (hn : bs.length = n) (h68 : 68 ≤ n) (hc : n ≤ c) (hcm : c ≤ 1048576) :
    Calls Try.prog 10 #[.slice (some ⟨G, 0, none⟩) n c, .int .i64 32, .int .i64 32] w fun e w' => e = .returned (.string ⟨(nm (mid bs)).toArray⟩) ∧ ∃ q, w' = w.drewN q := by
  have hml := mid_len bs (by omega)
  have hle := nm_le (mid bs)
  have HB : Hid (Byt G bs w) := hB
  clear hB
  have HNE : Hid (∀ (k : Nat), k < (nm (mid bs)).length → ∃ x : Int, w.cell? ⟨G, 32 + k, none⟩ = some (.int .u8 x) ∧ (x == 0) = false) := fun k hk =>
    ⟨_, HB.out.mid k (by omega), toNat_ne _ (nm_ne (mid bs) k hk (by omega))⟩
  have HEQ : Hid (∀ (k : Nat), k = (nm (mid bs)).length → k < 32 → w.cell? ⟨G, 32 + k, none⟩ = some (.int .u8 0)) := fun k hk h32 => by
    have h1 := HB.out.mid k (by omega)
    rw [nm_eq (mid bs) k hk (by omega)] at h1
    exact h1
  have hconv := name_conv G bs w HB.out (c - 32) (by omega)
  generalize nm (mid bs) = N at *
  go_enter Try.func10, Try.ntmps10
  go_wp2_with fail
  go_loopw [7] (fun i wr => ∃ k : Nat, k ≤ N.length ∧ i = .int .i64 ((32 + k : Nat) : Int) ∧ wr = w) (fun i _ => 64 - (intOf i).toNat)
  case atStart => exact ⟨0, Nat.zero_le _, rfl, rfl⟩
  case round =>
    obtain ⟨k, hk, rfl, rfl⟩ := hrel
    have hw64 : IntKind.i64.wrap (32 + 32) = 64 := by decide
    by_cases hlt : k < N.length
    · obtain ⟨x, hx, hx0⟩ := HNE.out k hlt
      have k1 : ((32 + k : Nat) : Int) < 64 := by omega
      have k2 : ((32 + k : Nat) : Int) < (n : Int) := by omega
      go_wp2
      go_roundw
      case rel => exact ⟨k + 1, hlt, by go_num, trivial⟩
      case measure => simp [intOf]; omega
    · obtain rfl : k = N.length := by omega
      have k3 : (32 : Int) ≤ ((32 + N.length : Nat) : Int) := by omega
      have k4 : ((32 + N.length : Nat) : Int) ≤ (c : Int) := by omega
      have k5 : (((32 + N.length : Nat) : Int)).toNat - 32 = N.length := by omega
      have k6 : 32 + N.length - 32 = N.length := by omega
      have k7 : ¬ (c = 32) := by omega
      by_cases h32 : N.length < 32
      · have hx := HEQ.out _ rfl h32
        have k1 : ((32 + N.length : Nat) : Int) < 64 := by omega
        have k2 : ((32 + N.length : Nat) : Int) < (n : Int) := by omega
        go_wp2
        go_ret
        exact ⟨rfl, 0, rfl⟩
      · have hN : N.length = 32 := by omega
        rw [hN] at hconv ⊢
        clear k3 k4 k5 k6 h32
        have k4 : (64 : Int) ≤ (c : Int) := by omega
        go_wp2
        go_ret
        exact ⟨rfl, 0, rfl⟩
end Go.Proofs.Qxb6608875a
