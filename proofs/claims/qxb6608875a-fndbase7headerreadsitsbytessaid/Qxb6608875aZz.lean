/-
  ZZreadDBase7Header, and the bound on the length.
-/
import Derived.Test.Qxb6608875aRead
namespace Go.Proofs.Qxb6608875a
open Go.RowKit

attribute [-go_sem] storeVar in
set_option maxHeartbeats 1000000 in
set_option maxRecDepth 100000 in
theorem zz5_any (G n c : Nat) (bs : List UInt8) (w : World) (hB : Byt G bs w) (hn : bs.length = n) (h68 : 68 ≤ n) (hc : n ≤ c) (hcm : c ≤ 1048576) :
    Calls Try.prog 5 #[.slice (some ⟨G, 0, none⟩) n c] w fun e w' => e = .returned (.agg (headCells bs (nm (mid bs)))) ∧ Below w.heap.size w w' := by
  have HB : Hid (Byt G bs w) := hB
  clear hB
  have hst1 : ∀ (R : Nat) (W : World), RB R W → (storeVar 29 ⟨R, 0, none⟩ (.agg (headCells bs (nm (mid bs))))).run Try.prog W = .ok () (W.setRow R (headCells bs (nm (mid bs)))) :=
    fun R W h => h.store _ rfl (by simp [headCells, Value.oneCell'])
  go_enter Try.func5, Try.ntmps5
  go_wp2_with fail
  have hb0 := (Below.refl w.heap.size w).alloc (Nat.le_refl _) (.cells #[.int .i64 0, .int .u8 0, .int .i64 0, .int .i64 0, .int .i64 0, .int .u32 0, .int .i64 0, .int .i64 0, .int .u8 0, .string ⟨#[]⟩] 29)
  have hR0 : RB w.heap.size (w.alloc (.cells #[.int .i64 0, .int .u8 0, .int .i64 0, .int .i64 0, .int .i64 0, .int .u32 0, .int .i64 0, .int .i64 0, .int .u8 0, .string ⟨#[]⟩] 29)) := ⟨_, heap_alloc_new w _, rfl⟩
  refine (read7_any G n c bs _ (HB.out.below hb0) hn h68 hc hcm).mono ?_
  rintro e w1 ⟨rfl, hb1⟩
  have hR1 : RB w.heap.size w1 := hR0.below hb1
  have b1 : Hid (Below w.heap.size w w1) := hb0.trans (hb1.mono hb0.size)
  clear hb0 hb1 hR0 HB
  go_wp2
  have hRE := hR1.setRow (headCells bs (nm (mid bs))) rfl
  exact bodyPost_ret (results_cell29 Try.results5 _ w.heap.size rfl _ _ hRE.setRow_heap rfl) rfl ⟨rfl, below_setRow b1.out (Nat.le_refl _) _⟩

theorem zzBytes4_any (a : Option Addr) (n c : Nat) (w : World) (h : n ≤ 1048576) :
    Calls Try.prog 4 #[.slice a n c] w fun e w' => e = .returned (.bool true) ∧ w' = w := by
  go_enter Try.func4, Try.ntmps4
  go_wp2
  go_ret
  exact ⟨rfl, rfl⟩
theorem zzBytes4_big (a : Option Addr) (n c : Nat) (w : World) (h : ¬ n ≤ 1048576) (hm : n ≤ maxLen) :
    Calls Try.prog 4 #[.slice a n c] w fun e w' => e = .returned (.bool false) ∧ w' = w := by
  unfold maxLen at hm
  go_enter Try.func4, Try.ntmps4
  go_wp2
  go_ret
  exact ⟨rfl, rfl⟩
end Go.Proofs.Qxb6608875a
