/-
  sync.Once, ONE GOROUTINE, at this program (after the kit's worked toy Lazy): the lock, the two deferred calls, doSlow and Do, the handed function's own contract a premise.
-/
import Derived.Test.Qxb6608979aProg
import Derived.Test.Qxb6608979aChecked
import Derived.Tactics
import Derived.Tactics2
import Derived.Defers
import Derived.WalkKit
import Derived.Below
import Derived.Laws.Pointers
import Derived.Laws.LoneSync
import Derived.RegionTactic
import Derived.RegionCalls
import Derived.ChangeAlike
namespace Go.Proofs.Qxb6608979a
open Go.RowKit

theorem disable (w : World) : (callFunc 34 #[]).run Try.prog w = .ok (.value (.tuple #[])) w := run_call_mark0 Try.func34 (by kernel_rfl) (by kernel_rfl) (by kernel_rfl) .disable (by kernel_rfl) w
theorem enable (w : World) : (callFunc 36 #[]).run Try.prog w = .ok (.value (.tuple #[])) w := run_call_mark0 Try.func36 (by kernel_rfl) (by kernel_rfl) (by kernel_rfl) .enable (by kernel_rfl) w
theorem acquire (a : Addr) (w : World) : (callFunc 37 #[.pointer (some a)]).run Try.prog w = .ok (.value (.tuple #[])) w := run_call_marked Try.func37 (by kernel_rfl) (by kernel_rfl) (by kernel_rfl) .acquire (by kernel_rfl) a w
theorem releaseMerge (a : Addr) (w : World) : (callFunc 39 #[.pointer (some a)]).run Try.prog w = .ok (.value (.tuple #[])) w := run_call_marked Try.func39 (by kernel_rfl) (by kernel_rfl) (by kernel_rfl) .releaseMerge (by kernel_rfl) a w

theorem store_deferred (a : Addr) (x : Value) (u : FrameMode) (w : World) (hc : w.cell? a = some x) (hz : w.frozen? a = false) :
    CallsD Try.prog 24 #[.pointer (some a), .bool true] u w fun e u' w' => u' = u ∧ (e = .returned (.tuple #[]) ∧ w' = w.drew.setCell a (.int .u32 1)) := by
  have hc' : w.drew.cell? a = some x := by go_simp
  have hz' : w.drew.frozen? a = false := by go_simp
  have hst := run_call_store (P := Try.prog) Try.func28 (by kernel_rfl) (by kernel_rfl) (by kernel_rfl) (by kernel_rfl) (k := .u32) (y := 1) hc' hz'
  go_enter_d Try.func24, Try.ntmps24
  go_wp2
  go_region_calls
  all_goals (go_end0; exact ⟨rfl, rfl⟩)

theorem unlock_deferred (a : Addr) (u : FrameMode) (w : World) (hc : w.cell? a = some (.int .i32 1)) (hz : w.frozen? a = false) :
    CallsD Try.prog 23 #[.pointer (some a)] u w fun e u' w' => u' = u ∧ (e = .returned (.tuple #[]) ∧ w' = w.setCell a (.int .i32 0)) := by
  have hd := disable
  have he := enable
  have hr := releaseMerge
  have hadd := run_call_add (P := Try.prog) Try.func40 (by kernel_rfl) (by kernel_rfl) (by kernel_rfl) .i32 (by kernel_rfl) (y := -1) (s := 0) hc hz (by simp [go_sem]; rfl)
  have hcv := run_convert_to_unsafe (P := Try.prog) (src := 61) (dst := 65) Try.underlying61 Try.underlying65 (by kernel_rfl) hc
  go_enter_d Try.func23, Try.ntmps23
  go_wp2
  go_end0
  go_wp2
  go_end0
  exact ⟨rfl, rfl⟩

theorem lock_free (a : Addr) (w : World) (hc : w.cell? a = some (.int .i32 0)) (hz : w.frozen? a = false) :
    Calls Try.prog 22 #[.pointer (some a)] w fun e w' => e = .returned (.tuple #[]) ∧ w' = w.setCell a (.int .i32 1) := by
  have hd := disable
  have he := enable
  have ha := acquire
  have hcas := run_call_cas_hit (P := Try.prog) Try.func35 (by kernel_rfl) (by kernel_rfl) (by kernel_rfl) .i32 (by kernel_rfl) (y := 1) hc hz
  have hc' : (w.setCell a (.int .i32 1)).cell? a = some (.int .i32 1) := World.cell?_setCell_same w a _ hc
  have hcv := run_convert_to_unsafe (P := Try.prog) (src := 61) (dst := 65) Try.underlying61 Try.underlying65 (by kernel_rfl) hc'
  go_enter Try.func22, Try.ntmps22
  go_wp2
  first | go_end0 | (simp only [Exit.inBlock, Exit.then]; refine bodyPost_ret (results_none rfl _ _ _) rfl ?_) | refine bodyPost_ret (results_none rfl _ _ _) rfl ?_
  go_wp2
  go_end0
  exact ⟨rfl, rfl⟩

theorem bload (a : Addr) (x : Int) (b : Bool) (hb : (x != 0) = b) (w : World) (h0 : w.cell? a = some (.int .u32 x)) :
    Calls Try.prog 16 #[.pointer (some a)] w fun e w' => e = .returned (.bool b) ∧ w' = w := by
  have hl := run_call_load (P := Try.prog) Try.func21 (by kernel_rfl) (by kernel_rfl) (by kernel_rfl) .u32 (by kernel_rfl) h0
  go_enter Try.func16, Try.ntmps16
  go_wp2
  go_ret
  exact ⟨by simp, rfl⟩

set_option maxRecDepth 100000 in
set_option maxHeartbeats 1600000 in
theorem slow_of (B : Nat) (pl : Addr) (w : World) (R : World → Prop) (h0 : w.cell? ⟨B, 0, none⟩ = some (.int .u32 0)) (h1 : w.cell? ⟨B, 1, none⟩ = some (.int .i32 0))
    (f1 : w.frozen? ⟨B, 1, none⟩ = false)
    (hf : Calls Try.prog 12 #[.pointer (some pl)] (w.setCell ⟨B, 1, none⟩ (.int .i32 1)) fun e w' => e = .returned (.tuple #[]) ∧ R w')
    (hR : ∀ w', R w' → w'.cell? ⟨B, 0, none⟩ = some (.int .u32 0) ∧ w'.cell? ⟨B, 1, none⟩ = some (.int .i32 1) ∧ w'.frozen? ⟨B, 0, none⟩ = false ∧ w'.frozen? ⟨B, 1, none⟩ = false) :
    Calls Try.prog 17 #[.pointer (some ⟨B, 0, none⟩), .func (.func 12) #[] #[.pointer (some pl)]] w fun e w' => e = .returned (.tuple #[]) ∧
      ∃ w1, R w1 ∧ w' = (w1.drew.setCell ⟨B, 0, none⟩ (.int .u32 1)).setCell ⟨B, 1, none⟩ (.int .i32 0) := by
  have hl : (w.setCell ⟨B, 1, none⟩ (.int .i32 1)).cell? ⟨B, 0, none⟩ = some (.int .u32 0) := (World.cell?_setCell_other _ ⟨B, 1, none⟩ ⟨B, 0, none⟩ _ (by simp)).trans h0
  have hnot : ∀ (x : Bool) (w : World), (Op.unary .not (.bool x)).run Try.prog w = .ok (.bool (!x)) w := fun _ _ => rfl
  have HR : Hid (∀ w', R w' → w'.cell? ⟨B, 0, none⟩ = some (.int .u32 0) ∧ w'.cell? ⟨B, 1, none⟩ = some (.int .i32 1) ∧ w'.frozen? ⟨B, 0, none⟩ = false ∧ w'.frozen? ⟨B, 1, none⟩ = false) := hR
  have HF : Hid (Calls Try.prog 12 #[.pointer (some pl)] (w.setCell ⟨B, 1, none⟩ (.int .i32 1)) fun e w' => e = .returned (.tuple #[]) ∧ R w') := hf
  clear hf hR
  go_enter_defers Try.func17, Try.ntmps17
  go_wp2_with (first
    | (go_at_call 22; refine (lock_free ⟨B, 1, none⟩ _ (by go_simp) (by go_simp)).mono ?_; rintro e w' ⟨rfl, rfl⟩)
    | (go_at_call 16; refine (bload ⟨B, 0, none⟩ 0 false (by decide) _ hl).mono ?_; rintro e w' ⟨rfl, rfl⟩)
    | (go_at_call 12; refine HF.out.mono ?_; rintro e w1 ⟨rfl, hw1⟩))
  obtain ⟨r0, r1, z0, z1⟩ := HR.out w1 hw1
  refine leaves_cons (f := 24) (args := #[.pointer (some ⟨B, 0, none⟩), .bool true]) (by simp) (by simp [go_sem]) ?_
  refine (store_deferred ⟨B, 0, none⟩ (.int .u32 0) .returning _ r0 z0).mono ?_
  rintro e u' w'' ⟨rfl, rfl, rfl⟩
  refine leaves_cons (f := 23) (args := #[.pointer (some ⟨B, 1, none⟩)]) (by simp [settle]) (by simp [go_sem]) ?_
  refine (unlock_deferred ⟨B, 1, none⟩ _ _ ?_ (by simp [z1])).mono ?_
  · refine (World.cell?_setCell_other _ ⟨B, 0, none⟩ ⟨B, 1, none⟩ _ (by simp)).trans ?_
    rw [World.cell?_drew]
    exact r1
  rintro e u' w'' ⟨rfl, rfl, rfl⟩
  simp [Leaves, settle, results, Try.results17]
  exact ⟨w1, hw1, rfl⟩

theorem do_first (B : Nat) (pl : Addr) (w : World) (R : World → Prop) (h0 : w.cell? ⟨B, 0, none⟩ = some (.int .u32 0)) (h1 : w.cell? ⟨B, 1, none⟩ = some (.int .i32 0))
    (f1 : w.frozen? ⟨B, 1, none⟩ = false)
    (hf : Calls Try.prog 12 #[.pointer (some pl)] (w.setCell ⟨B, 1, none⟩ (.int .i32 1)) fun e w' => e = .returned (.tuple #[]) ∧ R w')
    (hR : ∀ w', R w' → w'.cell? ⟨B, 0, none⟩ = some (.int .u32 0) ∧ w'.cell? ⟨B, 1, none⟩ = some (.int .i32 1) ∧ w'.frozen? ⟨B, 0, none⟩ = false ∧ w'.frozen? ⟨B, 1, none⟩ = false) :
    Calls Try.prog 11 #[.pointer (some ⟨B, 0, none⟩), .func (.func 12) #[] #[.pointer (some pl)]] w fun e w' => e = .returned (.tuple #[]) ∧
      ∃ w1, R w1 ∧ w' = (w1.drew.setCell ⟨B, 0, none⟩ (.int .u32 1)).setCell ⟨B, 1, none⟩ (.int .i32 0) := by
  have HSlow := slow_of B pl w R h0 h1 f1 hf hR
  have HSL : Hid (Calls Try.prog 17 #[.pointer (some ⟨B, 0, none⟩), .func (.func 12) #[] #[.pointer (some pl)]] w fun e w' => e = .returned (.tuple #[]) ∧ ∃ w1, R w1 ∧ w' = (w1.drew.setCell ⟨B, 0, none⟩ (.int .u32 1)).setCell ⟨B, 1, none⟩ (.int .i32 0)) := HSlow
  clear HSlow hf hR
  go_enter Try.func11, Try.ntmps11
  go_wp2_with (first
    | (go_at_call 16; refine (bload ⟨B, 0, none⟩ 0 false (by decide) _ h0).mono ?_; rintro e w' ⟨rfl, rfl⟩)
    | (go_at_call 17; refine HSL.out.mono ?_; rintro e w' ⟨rfl, w1, hw1, rfl⟩))
  go_end0
  exact ⟨rfl, w1, hw1, rfl⟩

theorem do_done (a : Addr) (fv : Value) (w : World) (h0 : w.cell? a = some (.int .u32 1)) :
    Calls Try.prog 11 #[.pointer (some a), fv] w fun e w' => e = .returned (.tuple #[]) ∧ w' = w := by
  go_enter Try.func11, Try.ntmps11
  go_wp2_with (go_at_call 16; refine (bload a 1 true (by decide) _ h0).mono ?_; rintro e w' ⟨rfl, rfl⟩)
  go_end0
  exact ⟨rfl, rfl⟩
end Go.Proofs.Qxb6608979a
