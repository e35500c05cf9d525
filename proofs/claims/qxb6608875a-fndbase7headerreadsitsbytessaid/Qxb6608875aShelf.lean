import Derived.Ground.MnProg
import Derived.Shelf.Bin.LEUint16
import Derived.Shelf.Bin.LEUint32
import Derived.Test.Qxb6608875aProg
namespace Go.Proofs
open Go.Shelf
def Try.laysBin27_ren : Go.Shelf.Ren := ⟨fun | 27 => 16 | n => n, fun | 25 => 40 | 22 => 22 | 23 => 42 | 0 => 0 | 5 => 5 | 45 => 36 | n => n, fun | n => n⟩
theorem Try.laysBin27 : Go.Proofs.LaysBin.n27 Try.prog Try.laysBin27_ren := {
  mixed := by kernel_rfl
  f27 := Try.func16.trans (congrArg some (by kernel_rfl))
  t0 := Try.underlying0
  a0 := Try.isAgg0
  z0 := Try.sizeOf0
  v0 := Try.zeroValue0
  i0 := by kernel_rfl
  t5 := Try.underlying5
  a5 := Try.isAgg5
  z5 := Try.sizeOf5
  v5 := Try.zeroValue5
  i5 := by kernel_rfl
  t22 := Try.underlying22
  a22 := Try.isAgg22
  z22 := Try.sizeOf22
  v22 := Try.zeroValue22
  i22 := by kernel_rfl
  t23 := Try.underlying42
  a23 := Try.isAgg42
  z23 := Try.sizeOf42
  v23 := Try.zeroValue42
  i23 := by kernel_rfl
  t25 := Try.underlying40
  a25 := Try.isAgg40
  z25 := Try.sizeOf40
  v25 := Try.zeroValue40
  i25 := by kernel_rfl
  t45 := Try.underlying36
  a45 := Try.isAgg36
  z45 := Try.sizeOf36
  v45 := Try.zeroValue36
  i45 := by kernel_rfl }
open Go.RowKit in
theorem Try.binary_LE_Uint16 (g o n c : Nat) (b0 b1 : UInt8) (w : World) (hn : 2 ≤ n) (c0 : w.cell? ⟨g, o, none⟩ = some (.int .u8 b0.toNat)) (c1 : w.cell? ⟨g, o + 1, none⟩ = some (.int .u8 b1.toNat)) :
    Calls Try.prog 16 #[.agg #[], .slice (some ⟨g, o, none⟩) n c] w fun e w' => e = .returned (.int .u16 (Lib.leNat [b0, b1])) ∧ Below w.heap.size w w' := Any.binary_LE_Uint16 Try.laysBin27 g o n c b0 b1 w hn c0 c1
def Try.laysBin30_ren : Go.Shelf.Ren := ⟨fun | 30 => 15 | n => n, fun | 25 => 40 | 22 => 22 | 29 => 27 | 0 => 0 | 5 => 5 | 45 => 36 | n => n, fun | n => n⟩
theorem Try.laysBin30 : Go.Proofs.LaysBin.n30 Try.prog Try.laysBin30_ren := {
  mixed := by kernel_rfl
  f30 := Try.func15.trans (congrArg some (by kernel_rfl))
  t0 := Try.underlying0
  a0 := Try.isAgg0
  z0 := Try.sizeOf0
  v0 := Try.zeroValue0
  i0 := by kernel_rfl
  t5 := Try.underlying5
  a5 := Try.isAgg5
  z5 := Try.sizeOf5
  v5 := Try.zeroValue5
  i5 := by kernel_rfl
  t22 := Try.underlying22
  a22 := Try.isAgg22
  z22 := Try.sizeOf22
  v22 := Try.zeroValue22
  i22 := by kernel_rfl
  t25 := Try.underlying40
  a25 := Try.isAgg40
  z25 := Try.sizeOf40
  v25 := Try.zeroValue40
  i25 := by kernel_rfl
  t29 := Try.underlying27
  a29 := Try.isAgg27
  z29 := Try.sizeOf27
  v29 := Try.zeroValue27
  i29 := by kernel_rfl
  t45 := Try.underlying36
  a45 := Try.isAgg36
  z45 := Try.sizeOf36
  v45 := Try.zeroValue36
  i45 := by kernel_rfl }
open Go.RowKit in
theorem Try.binary_LE_Uint32 (g o n c : Nat) (b0 b1 b2 b3 : UInt8) (w : World) (hn : 4 ≤ n) (c0 : w.cell? ⟨g, o, none⟩ = some (.int .u8 b0.toNat)) (c1 : w.cell? ⟨g, o + 1, none⟩ = some (.int .u8 b1.toNat)) (c2 : w.cell? ⟨g, o + 2, none⟩ = some (.int .u8 b2.toNat)) (c3 : w.cell? ⟨g, o + 3, none⟩ = some (.int .u8 b3.toNat)) :
    Calls Try.prog 15 #[.agg #[], .slice (some ⟨g, o, none⟩) n c] w fun e w' => e = .returned (.int .u32 (Lib.leNat [b0, b1, b2, b3])) ∧ Below w.heap.size w w' := Any.binary_LE_Uint32 Try.laysBin30 g o n c b0 b1 b2 b3 w hn c0 c1 c2 c3
end Go.Proofs
