/-
  strings.Count at one newline; NewText.
-/
import Derived.Test.Qxb6608979aSmall
import Derived.Lib.Bytealg
import Derived.Lib.Walk
import Derived.Laws.Entries
namespace Go.Proofs.Qxb6608979a
open Go.RowKit

def cnt (s : ByteArray) : Nat := Lib.countByte s.data.toList 10
theorem cnt_le (s : ByteArray) : cnt s ≤ s.size := by
  have h := List.count_le_length (a := (10 : UInt8)) (l := s.data.toList)
  simpa [cnt, Lib.countByte] using h

set_option maxHeartbeats 1000000 in
set_option maxRecDepth 100000 in
theorem count_any (s : ByteArray) (w : World) :
    Calls Try.prog 13 #[.string s, .string ⟨#[10]⟩] w fun e w' => e = .returned (.int .i64 (cnt s)) ∧ w' = w := by
  have hrun : (Extern.BytealgCount.count #[.string s, .int .u8 10]).run Try.prog w = .ok (.int .i64 (cnt s)) w := Lib.run_countString (P := Try.prog) s 10 w
  go_enter Try.func13, Try.ntmps13
  go_wp2
  rw [run_callFunc_extern Try.func19 (by kernel_rfl) (by kernel_rfl) (by kernel_rfl) (e := Extern.BytealgCount.count) (by kernel_rfl), show (Extern.BytealgCount.count #[.string s, .int .u8 ((((⟨#[10]⟩ : ByteArray)[0]'(by decide)).toNat : Nat) : Int)]).run Try.prog w = _ from hrun]
  simp only [Result.andThen]
  rw [Oper.upon_value]
  go_wp2
  go_ret
  exact ⟨rfl, rfl⟩

theorem newText_any (s : ByteArray) (w : World) :
    Calls Try.prog 6 #[.string s] w fun e w' => e = .returned (.pointer (some ⟨w.heap.size, 0, none⟩)) ∧ w' = w.alloc (.cells #[.int .u32 0, .int .i32 0, .int .u32 0, .string s, .slice none 0 0] 44) := by
  go_enter Try.func6, Try.ntmps6
  go_wp2
  go_ret
  exact ⟨rfl, rfl⟩

theorem zzBytes5_any (s : ByteArray) (w : World) (hs : s.size ≤ 1048576) :
    Calls Try.prog 5 #[.string s] w fun e w' => e = .returned (.bool true) ∧ w' = w := by
  go_enter Try.func5, Try.ntmps5
  go_wp2
  go_ret
  exact ⟨rfl, rfl⟩
theorem zzBytes5_big (s : ByteArray) (w : World) (hs : ¬ s.size ≤ 1048576) (wm : s.size ≤ maxLen) :
    Calls Try.prog 5 #[.string s] w fun e w' => e = .returned (.bool false) ∧ w' = w := by
  unfold maxLen at wm
  go_enter Try.func5, Try.ntmps5
  go_wp2
  go_ret
  exact ⟨rfl, rfl⟩
end Go.Proofs.Qxb6608979a
