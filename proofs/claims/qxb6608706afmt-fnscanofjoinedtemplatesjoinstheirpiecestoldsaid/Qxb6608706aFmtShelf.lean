/- THE SHELF at this program: the library contracts, proved once, laid in plain words by the kit's tool; one of them laid by hand in the same words. -/
import Derived.Shelf.Strings.Builder1
import Derived.Shelf.Small.Utf8
import Derived.Shelf.Small.Strs
import Derived.Shelf.Strings.BuilderF
import Derived.Shelf.Strings.BuilderK
import Derived.Shelf.Strings.Search1
import Derived.Shelf.Strings.Runes
import Derived.Shelf.Strings.IndexAny
import Derived.Shelf.Strings.AsciiSet
import Derived.Shelf.Strings.IndexAnyAll
import Derived.Test.Qxb6608706aFmtProg
namespace Go.Proofs
open Go.Shelf
def Tryf.lays170_ren : Go.Shelf.Ren := ⟨fun | 170 => 19 | n => n, fun | 70 => 42 | 3 => 3 | 0 => 0 | 72 => 44 | 37 => 40 | 5 => 5 | n => n, fun | n => n⟩
theorem Tryf.lays170 : Go.Proofs.Lays.n170 Tryf.prog Tryf.lays170_ren := {
  mixed := by kernel_rfl
  f170 := Tryf.func19.trans (congrArg some (by kernel_rfl))
  t0 := Tryf.underlying0
  a0 := Tryf.isAgg0
  z0 := Tryf.sizeOf0
  v0 := Tryf.zeroValue0
  t3 := Tryf.underlying3
  a3 := Tryf.isAgg3
  z3 := Tryf.sizeOf3
  v3 := Tryf.zeroValue3
  t37 := Tryf.underlying40
  a37 := Tryf.isAgg40
  z37 := Tryf.sizeOf40
  v37 := Tryf.zeroValue40
  t70 := Tryf.underlying42
  a70 := Tryf.isAgg42
  z70 := Tryf.sizeOf42
  v70 := Tryf.zeroValue42
  t72 := Tryf.underlying44
  a72 := Tryf.isAgg44
  z72 := Tryf.sizeOf44
  v72 := Tryf.zeroValue44 }
open Go.RowKit in
theorem Tryf.Builder_Len (B b : Nat) (bs : List Value) (w : World) (h : Lib.IsBuilder 44 5 B b bs w) :
    Calls Tryf.prog 19 #[.pointer (some ⟨b, 0, none⟩)] w fun e w' => e = .returned (.int .i64 bs.length) ∧ w' = w := Any.Builder_Len Tryf.lays170 B b bs w h
def Tryf.lays169_ren : Go.Shelf.Ren := ⟨fun | 169 => 20 | n => n, fun | 70 => 42 | 9 => 9 | 0 => 0 | 72 => 44 | 37 => 40 | 127 => 50 | 3 => 3 | 5 => 5 | n => n, fun | n => n⟩
theorem Tryf.lays169 : Go.Proofs.Lays.n169 Tryf.prog Tryf.lays169_ren := {
  mixed := by kernel_rfl
  f169 := Tryf.func20.trans (congrArg some (by kernel_rfl))
  t0 := Tryf.underlying0
  a0 := Tryf.isAgg0
  z0 := Tryf.sizeOf0
  v0 := Tryf.zeroValue0
  t3 := Tryf.underlying3
  a3 := Tryf.isAgg3
  z3 := Tryf.sizeOf3
  v3 := Tryf.zeroValue3
  t9 := Tryf.underlying9
  a9 := Tryf.isAgg9
  z9 := Tryf.sizeOf9
  v9 := Tryf.zeroValue9
  t37 := Tryf.underlying40
  a37 := Tryf.isAgg40
  z37 := Tryf.sizeOf40
  v37 := Tryf.zeroValue40
  t70 := Tryf.underlying42
  a70 := Tryf.isAgg42
  z70 := Tryf.sizeOf42
  v70 := Tryf.zeroValue42
  t72 := Tryf.underlying44
  a72 := Tryf.isAgg44
  z72 := Tryf.sizeOf44
  v72 := Tryf.zeroValue44
  t127 := Tryf.underlying50
  a127 := Tryf.isAgg50
  z127 := Tryf.sizeOf50
  v127 := Tryf.zeroValue50 }
theorem Tryf.Builder_Extra_169 : Builder.Extra Tryf.prog Tryf.lays169_ren := {
  sizeBuilder := by kernel_rfl
  liesBuilder := by kernel_rfl
  t5 := Tryf.underlying5
  a5 := Tryf.isAgg5
  z5 := Tryf.sizeOf5
  v5 := Tryf.zeroValue5
  infoByte := by kernel_rfl
  cellsByte := by kernel_rfl
  sizeByte := by kernel_rfl
  neB5 := by decide }
open Go.RowKit in
theorem Tryf.Builder_String (B b : Nat) (l : List UInt8) (w : World) (h : Lib.IsBuilder 44 5 B b (Lib.byteCells l) w) (h0 : l ≠ []) :
    Calls Tryf.prog 20 #[.pointer (some ⟨b, 0, none⟩)] w fun e w' => e = .returned (.string ⟨l.toArray⟩) ∧ Below B w w' := Any.Builder_String Tryf.lays169 Tryf.Builder_Extra_169 B b l w h h0
open Go.RowKit in
theorem Tryf.Builder_String_empty (B b : Nat) (w : World) (h : Lib.IsBuilder 44 5 B b [] w) (hBw : B ≤ w.heap.size) :
    Calls Tryf.prog 20 #[.pointer (some ⟨b, 0, none⟩)] w fun e w' => e = .returned (.string ⟨#[]⟩) ∧ Below B w w' := Any.Builder_String_empty Tryf.lays169 Tryf.Builder_Extra_169 B b w h hBw
open Go.RowKit in
theorem Tryf.Builder_String_any (B b : Nat) (l : List UInt8) (w : World) (h : Lib.IsBuilder 44 5 B b (Lib.byteCells l) w) (hBw : B ≤ w.heap.size) :
    Calls Tryf.prog 20 #[.pointer (some ⟨b, 0, none⟩)] w fun e w' => e = .returned (.string ⟨l.toArray⟩) ∧ Below B w w' := Any.Builder_String_any Tryf.lays169 Tryf.Builder_Extra_169 B b l w h hBw
def Tryf.lays119_ren : Go.Shelf.Ren := ⟨fun | 119 => 34 | n => n, fun | 21 => 21 | 4 => 4 | n => n, fun | n => n⟩
theorem Tryf.lays119 : Go.Proofs.Lays.n119 Tryf.prog Tryf.lays119_ren := {
  mixed := by kernel_rfl
  f119 := Tryf.func34.trans (congrArg some (by kernel_rfl))
  t4 := Tryf.underlying4
  a4 := Tryf.isAgg4
  z4 := Tryf.sizeOf4
  v4 := Tryf.zeroValue4
  t21 := Tryf.underlying21
  a21 := Tryf.isAgg21
  z21 := Tryf.sizeOf21
  v21 := Tryf.zeroValue21 }
theorem Tryf.utf8_ValidRune (r : Int) (w : World) :
    Calls Tryf.prog 34 #[.int .i32 r] w fun e w' => e = .returned (.bool (Lib.validRune r)) ∧ w' = w := Any.utf8_ValidRune Tryf.lays119 r w
def Tryf.lays137_ren : Go.Shelf.Ren := ⟨fun | 137 => 33 | 217 => 37 | 266 => 38 | n => n, fun | 9 => 9 | 5 => 5 | 3 => 3 | n => n, fun | n => n⟩
theorem Tryf.lays137 : Go.Proofs.Lays.n137 Tryf.prog Tryf.lays137_ren := {
  mixed := by kernel_rfl
  f137 := Tryf.func33.trans (congrArg some (by kernel_rfl))
  f217 := Tryf.func37.trans (congrArg some (by kernel_rfl))
  f266 := Tryf.func38.trans (congrArg some (by kernel_rfl))
  t3 := Tryf.underlying3
  a3 := Tryf.isAgg3
  z3 := Tryf.sizeOf3
  v3 := Tryf.zeroValue3
  t5 := Tryf.underlying5
  a5 := Tryf.isAgg5
  z5 := Tryf.sizeOf5
  v5 := Tryf.zeroValue5
  t9 := Tryf.underlying9
  a9 := Tryf.isAgg9
  z9 := Tryf.sizeOf9
  v9 := Tryf.zeroValue9 }
open Go.RowKit in
theorem Tryf.strings_IndexByte (s : ByteArray) (c : Int) (w : World) :
    Calls Tryf.prog 33 #[.string s, .int .u8 c] w fun e w' => e = .returned (.int .i64 (Lib.indexByte s.data.toList c.toNat.toUInt8)) ∧ w' = w := Any.strings_IndexByte Tryf.lays137 s c w
open Go.RowKit in
theorem Tryf.Builder_Len_f (B b : Nat) (bs : List Value) (w : World) (h : Lib.IsBuilderF 44 5 B b bs w) :
    Calls Tryf.prog 19 #[.pointer (some ⟨b, 0, none⟩)] w fun e w' => e = .returned (.int .i64 bs.length) ∧ w' = w := Any.Builder_Len_f Tryf.lays170 B b bs w h
open Go.RowKit in
theorem Tryf.Builder_String_f (B b : Nat) (l : List UInt8) (w : World) (h : Lib.IsBuilderF 44 5 B b (Lib.byteCells l) w) (h0 : l ≠ []) :
    Calls Tryf.prog 20 #[.pointer (some ⟨b, 0, none⟩)] w fun e w' => e = .returned (.string ⟨l.toArray⟩) ∧ (Lib.IsBuilderF 44 5 B b (Lib.byteCells l) w' ∧ Below B w w') := Any.Builder_String_f Tryf.lays169 Tryf.Builder_Extra_169 B b l w h h0
open Go.RowKit in
theorem Tryf.Builder_String_empty_f (B b : Nat) (w : World) (h : Lib.IsBuilderF 44 5 B b [] w) (hBw : B ≤ w.heap.size) :
    Calls Tryf.prog 20 #[.pointer (some ⟨b, 0, none⟩)] w fun e w' => e = .returned (.string ⟨#[]⟩) ∧ (Lib.IsBuilderF 44 5 B b [] w' ∧ Below B w w') := Any.Builder_String_empty_f Tryf.lays169 Tryf.Builder_Extra_169 B b w h hBw
open Go.RowKit in
theorem Tryf.Builder_String_any_f (B b : Nat) (l : List UInt8) (w : World) (h : Lib.IsBuilderF 44 5 B b (Lib.byteCells l) w) (hBw : B ≤ w.heap.size) :
    Calls Tryf.prog 20 #[.pointer (some ⟨b, 0, none⟩)] w fun e w' => e = .returned (.string ⟨l.toArray⟩) ∧ (Lib.IsBuilderF 44 5 B b (Lib.byteCells l) w' ∧ Below B w w') := Any.Builder_String_any_f Tryf.lays169 Tryf.Builder_Extra_169 B b l w h hBw
open Go.RowKit in
theorem Tryf.Builder_String_k (B b : Nat) (l : List UInt8) (w : World) (h : Lib.IsBuilderF 44 5 B b (Lib.byteCells l) w) (h0 : l ≠ []) :
    Calls Tryf.prog 20 #[.pointer (some ⟨b, 0, none⟩)] w fun e w' => e = .returned (.string ⟨l.toArray⟩) ∧ (Lib.IsBuilderF 44 5 B b (Lib.byteCells l) w' ∧ Below B w w' ∧ Lib.OthersKept 5 (some b) w w') := Any.Builder_String_k Tryf.lays169 Tryf.Builder_Extra_169 B b l w h h0
open Go.RowKit in
theorem Tryf.Builder_String_empty_k (B b : Nat) (w : World) (h : Lib.IsBuilderF 44 5 B b [] w) (hBw : B ≤ w.heap.size) :
    Calls Tryf.prog 20 #[.pointer (some ⟨b, 0, none⟩)] w fun e w' => e = .returned (.string ⟨#[]⟩) ∧ (Lib.IsBuilderF 44 5 B b [] w' ∧ Below B w w' ∧ Lib.OthersKept 5 (some b) w w') := Any.Builder_String_empty_k Tryf.lays169 Tryf.Builder_Extra_169 B b w h hBw
open Go.RowKit in
theorem Tryf.Builder_String_any_k (B b : Nat) (l : List UInt8) (w : World) (h : Lib.IsBuilderF 44 5 B b (Lib.byteCells l) w) (hBw : B ≤ w.heap.size) :
    Calls Tryf.prog 20 #[.pointer (some ⟨b, 0, none⟩)] w fun e w' => e = .returned (.string ⟨l.toArray⟩) ∧ (Lib.IsBuilderF 44 5 B b (Lib.byteCells l) w' ∧ Below B w w' ∧ Lib.OthersKept 5 (some b) w w') := Any.Builder_String_any_k Tryf.lays169 Tryf.Builder_Extra_169 B b l w h hBw
def Tryf.lays217_ren : Go.Shelf.Ren := ⟨fun | 217 => 37 | 266 => 38 | n => n, fun | 9 => 9 | 5 => 5 | 3 => 3 | n => n, fun | n => n⟩
theorem Tryf.lays217 : Go.Proofs.Lays.n217 Tryf.prog Tryf.lays217_ren := {
  mixed := by kernel_rfl
  f217 := Tryf.func37.trans (congrArg some (by kernel_rfl))
  f266 := Tryf.func38.trans (congrArg some (by kernel_rfl))
  t3 := Tryf.underlying3
  a3 := Tryf.isAgg3
  z3 := Tryf.sizeOf3
  v3 := Tryf.zeroValue3
  t5 := Tryf.underlying5
  a5 := Tryf.isAgg5
  z5 := Tryf.sizeOf5
  v5 := Tryf.zeroValue5
  t9 := Tryf.underlying9
  a9 := Tryf.isAgg9
  z9 := Tryf.sizeOf9
  v9 := Tryf.zeroValue9 }
open Go.RowKit Go.Lib in
theorem Tryf.stringslite_IndexByte (s : ByteArray) (c : Int) (w : World) :
    Calls Tryf.prog 37 #[.string s, .int .u8 c] w fun e w' => e = .returned (.int .i64 (Lib.indexByte s.data.toList c.toNat.toUInt8)) ∧ w' = w := Any.stringslite_IndexByte Tryf.lays217 s c w
def Tryf.lays224_ren : Go.Shelf.Ren := ⟨fun | 224 => 35 | n => n, fun | 3 => 3 | n => n, fun | n => n⟩
theorem Tryf.lays224 : Go.Proofs.Lays.n224 Tryf.prog Tryf.lays224_ren := {
  mixed := by kernel_rfl
  f224 := Tryf.func35.trans (congrArg some (by kernel_rfl))
  t3 := Tryf.underlying3
  a3 := Tryf.isAgg3
  z3 := Tryf.sizeOf3
  v3 := Tryf.zeroValue3 }
open Go.RowKit Go.Lib in
theorem Tryf.bytealg_Cutover (n : Int) (h0 : 0 ≤ n) (h1 : n < 4611686018427387904) (w : World) :
    Calls Tryf.prog 35 #[.int .i64 n] w fun e w' => e = .returned (.int .i64 ((n + 16) / 8)) ∧ w' = w := Any.bytealg_Cutover Tryf.lays224 n h0 h1 w
def Tryf.lays152_ren : Go.Shelf.Ren := ⟨fun | 152 => 26 | 137 => 33 | 119 => 34 | 224 => 35 | 225 => 36 | 217 => 37 | 266 => 38 | n => n, fun | 9 => 9 | 21 => 21 | 3 => 3 | 4 => 4 | 5 => 5 | 0 => 0 | 46 => 66 | n => n, fun | n => n⟩
theorem Tryf.lays152 : Go.Proofs.Lays.n152 Tryf.prog Tryf.lays152_ren := {
  mixed := by kernel_rfl
  f119 := Tryf.func34.trans (congrArg some (by kernel_rfl))
  f137 := Tryf.func33.trans (congrArg some (by kernel_rfl))
  f152 := Tryf.func26.trans (congrArg some (by kernel_rfl))
  f217 := Tryf.func37.trans (congrArg some (by kernel_rfl))
  f224 := Tryf.func35.trans (congrArg some (by kernel_rfl))
  f225 := Tryf.func36.trans (congrArg some (by kernel_rfl))
  f266 := Tryf.func38.trans (congrArg some (by kernel_rfl))
  t0 := Tryf.underlying0
  a0 := Tryf.isAgg0
  z0 := Tryf.sizeOf0
  v0 := Tryf.zeroValue0
  t3 := Tryf.underlying3
  a3 := Tryf.isAgg3
  z3 := Tryf.sizeOf3
  v3 := Tryf.zeroValue3
  t4 := Tryf.underlying4
  a4 := Tryf.isAgg4
  z4 := Tryf.sizeOf4
  v4 := Tryf.zeroValue4
  t5 := Tryf.underlying5
  a5 := Tryf.isAgg5
  z5 := Tryf.sizeOf5
  v5 := Tryf.zeroValue5
  t9 := Tryf.underlying9
  a9 := Tryf.isAgg9
  z9 := Tryf.sizeOf9
  v9 := Tryf.zeroValue9
  t21 := Tryf.underlying21
  a21 := Tryf.isAgg21
  z21 := Tryf.sizeOf21
  v21 := Tryf.zeroValue21
  t46 := Tryf.underlying66
  a46 := Tryf.isAgg66
  z46 := Tryf.sizeOf66
  v46 := Tryf.zeroValue66 }
open Go.RowKit Go.Lib in
theorem Tryf.strings_IndexRune_ascii (s : ByteArray) (r : Int) (w : World) (h0 : 0 ≤ r) (h1 : r < 128) :
    Calls Tryf.prog 26 #[.string s, .int .i32 r] w fun e w' => e = .returned (.int .i64 (Lib.indexByte s.data.toList r.toNat.toUInt8)) ∧ w' = w := Any.strings_IndexRune_ascii Tryf.lays152 s r w h0 h1
def Tryf.lays226_ren : Go.Shelf.Ren := ⟨fun | 226 => 27 | n => n, fun | 3 => 3 | 4 => 4 | n => n, fun | n => n⟩
theorem Tryf.lays226 : Go.Proofs.Lays.n226 Tryf.prog Tryf.lays226_ren := {
  mixed := by kernel_rfl
  f226 := Tryf.func27.trans (congrArg some (by kernel_rfl))
  t3 := Tryf.underlying3
  a3 := Tryf.isAgg3
  z3 := Tryf.sizeOf3
  v3 := Tryf.zeroValue3
  t4 := Tryf.underlying4
  a4 := Tryf.isAgg4
  z4 := Tryf.sizeOf4
  v4 := Tryf.zeroValue4 }
open Go.RowKit Go.Lib in
theorem Tryf.strings_shouldUseASCIISet (n : Int) (w : World) :
    Calls Tryf.prog 27 #[.int .i64 n] w fun e w' => e = .returned (.bool (decide (8 < n))) ∧ w' = w := Any.strings_shouldUseASCIISet Tryf.lays226 n w
def Tryf.lays153_ren : Go.Shelf.Ren := ⟨fun | 153 => 23 | 152 => 26 | 226 => 27 | 227 => 28 | 228 => 29 | 137 => 33 | 119 => 34 | 224 => 35 | 225 => 36 | 217 => 37 | 266 => 38 | n => n, fun | 9 => 9 | 3 => 3 | 4 => 4 | 5 => 5 | 21 => 21 | 117 => 55 | 116 => 54 | 0 => 0 | 46 => 66 | 124 => 67 | n => n, fun | n => n⟩
theorem Tryf.lays153 : Go.Proofs.Lays.n153 Tryf.prog Tryf.lays153_ren := {
  mixed := by kernel_rfl
  f119 := Tryf.func34.trans (congrArg some (by kernel_rfl))
  f137 := Tryf.func33.trans (congrArg some (by kernel_rfl))
  f152 := Tryf.func26.trans (congrArg some (by kernel_rfl))
  f153 := Tryf.func23.trans (congrArg some (by kernel_rfl))
  f217 := Tryf.func37.trans (congrArg some (by kernel_rfl))
  f224 := Tryf.func35.trans (congrArg some (by kernel_rfl))
  f225 := Tryf.func36.trans (congrArg some (by kernel_rfl))
  f226 := Tryf.func27.trans (congrArg some (by kernel_rfl))
  f227 := Tryf.func28.trans (congrArg some (by kernel_rfl))
  f228 := Tryf.func29.trans (congrArg some (by kernel_rfl))
  f266 := Tryf.func38.trans (congrArg some (by kernel_rfl))
  t0 := Tryf.underlying0
  a0 := Tryf.isAgg0
  z0 := Tryf.sizeOf0
  v0 := Tryf.zeroValue0
  t3 := Tryf.underlying3
  a3 := Tryf.isAgg3
  z3 := Tryf.sizeOf3
  v3 := Tryf.zeroValue3
  t4 := Tryf.underlying4
  a4 := Tryf.isAgg4
  z4 := Tryf.sizeOf4
  v4 := Tryf.zeroValue4
  t5 := Tryf.underlying5
  a5 := Tryf.isAgg5
  z5 := Tryf.sizeOf5
  v5 := Tryf.zeroValue5
  t9 := Tryf.underlying9
  a9 := Tryf.isAgg9
  z9 := Tryf.sizeOf9
  v9 := Tryf.zeroValue9
  t21 := Tryf.underlying21
  a21 := Tryf.isAgg21
  z21 := Tryf.sizeOf21
  v21 := Tryf.zeroValue21
  t46 := Tryf.underlying66
  a46 := Tryf.isAgg66
  z46 := Tryf.sizeOf66
  v46 := Tryf.zeroValue66
  t116 := Tryf.underlying54
  a116 := Tryf.isAgg54
  z116 := Tryf.sizeOf54
  t117 := Tryf.underlying55
  a117 := Tryf.isAgg55
  z117 := Tryf.sizeOf55
  v117 := Tryf.zeroValue55
  t124 := Tryf.underlying67
  a124 := Tryf.isAgg67
  z124 := Tryf.sizeOf67
  v124 := Tryf.zeroValue67 }
open Go.RowKit Go.Lib in
theorem Tryf.strings_IndexAny_none (s chars : ByteArray) (w : World) (h0 : chars.size = 0) :
    Calls Tryf.prog 23 #[.string s, .string chars] w fun e w' => e = .returned (.int .i64 (Lib.indexAny s.data.toList chars.data.toList)) ∧ w' = w := Any.strings_IndexAny_none Tryf.lays153 s chars w h0
open Go.RowKit Go.Lib in
theorem Tryf.strings_IndexAny_one (s chars : ByteArray) (w : World) (h1 : chars.size = 1) (hascii : ∀ (j : Nat) b, chars.data.toList[j]? = some b → b.toNat < 128) :
    Calls Tryf.prog 23 #[.string s, .string chars] w fun e w' => e = .returned (.int .i64 (Lib.indexAny s.data.toList chars.data.toList)) ∧ w' = w := Any.strings_IndexAny_one Tryf.lays153 s chars w h1 hascii
open Go.RowKit Go.Lib in
theorem Tryf.strings_IndexAny_short (s chars : ByteArray) (w : World) (h2 : 2 ≤ chars.size) (h8 : s.size ≤ 8) (hascii : ∀ (j : Nat) b, s.data.toList[j]? = some b → b.toNat < 128) :
    Calls Tryf.prog 23 #[.string s, .string chars] w fun e w' => e = .returned (.int .i64 (Lib.indexAny s.data.toList chars.data.toList)) ∧ ∃ pos, w' = w.iter s pos := Any.strings_IndexAny_short Tryf.lays153 s chars w h2 h8 hascii
def Tryf.lays227_ren : Go.Shelf.Ren := ⟨fun | 227 => 28 | n => n, fun | 9 => 9 | 116 => 54 | 4 => 4 | 0 => 0 | 3 => 3 | 5 => 5 | n => n, fun | n => n⟩
theorem Tryf.lays227 : Go.Proofs.Lays.n227 Tryf.prog Tryf.lays227_ren := {
  mixed := by kernel_rfl
  f227 := Tryf.func28.trans (congrArg some (by kernel_rfl))
  t0 := Tryf.underlying0
  a0 := Tryf.isAgg0
  z0 := Tryf.sizeOf0
  v0 := Tryf.zeroValue0
  t3 := Tryf.underlying3
  a3 := Tryf.isAgg3
  z3 := Tryf.sizeOf3
  v3 := Tryf.zeroValue3
  t4 := Tryf.underlying4
  a4 := Tryf.isAgg4
  z4 := Tryf.sizeOf4
  v4 := Tryf.zeroValue4
  t5 := Tryf.underlying5
  a5 := Tryf.isAgg5
  z5 := Tryf.sizeOf5
  v5 := Tryf.zeroValue5
  t9 := Tryf.underlying9
  a9 := Tryf.isAgg9
  z9 := Tryf.sizeOf9
  v9 := Tryf.zeroValue9
  t116 := Tryf.underlying54
  a116 := Tryf.isAgg54
  z116 := Tryf.sizeOf54 }
open Go.RowKit Go.Lib in
theorem Tryf.strings_makeASCIISet (hv116 : ∀ w, (zeroValue 54).run Tryf.prog w = .ok (.agg (Array.replicate 256 (.bool false))) w) (chars : ByteArray) (w : World) (hs : chars.size < 4294967281) (hascii : ∀ (j : Nat) b, chars.data.toList[j]? = some b → b.toNat < 128) :
    Calls Tryf.prog 28 #[.string chars] w fun e w' => e = .returned (.tuple #[.agg (Lib.setCells chars.data.toList), .bool true]) ∧ w' = w.alloc (.cells (Lib.setCells chars.data.toList) 54) := Any.strings_makeASCIISet Tryf.lays227 hv116 (by kernel_rfl) chars w hs hascii
def Tryf.lays228_ren : Go.Shelf.Ren := ⟨fun | 228 => 29 | n => n, fun | 124 => 67 | 5 => 5 | 4 => 4 | 0 => 0 | 116 => 54 | n => n, fun | n => n⟩
theorem Tryf.lays228 : Go.Proofs.Lays.n228 Tryf.prog Tryf.lays228_ren := {
  mixed := by kernel_rfl
  f228 := Tryf.func29.trans (congrArg some (by kernel_rfl))
  t0 := Tryf.underlying0
  a0 := Tryf.isAgg0
  z0 := Tryf.sizeOf0
  v0 := Tryf.zeroValue0
  t4 := Tryf.underlying4
  a4 := Tryf.isAgg4
  z4 := Tryf.sizeOf4
  v4 := Tryf.zeroValue4
  t5 := Tryf.underlying5
  a5 := Tryf.isAgg5
  z5 := Tryf.sizeOf5
  v5 := Tryf.zeroValue5
  t116 := Tryf.underlying54
  a116 := Tryf.isAgg54
  z116 := Tryf.sizeOf54
  t124 := Tryf.underlying67
  a124 := Tryf.isAgg67
  z124 := Tryf.sizeOf67
  v124 := Tryf.zeroValue67 }
open Go.RowKit Go.Lib in
theorem Tryf.asciiSet_contains (b : Nat) (x : UInt8) (v : Bool) (w : World) (hc : w.cell? ⟨b, x.toNat, none⟩ = some (.bool v)) :
    Calls Tryf.prog 29 #[.pointer (some ⟨b, 0, none⟩), .int .u8 x.toNat] w fun e w' => e = .returned (.bool v) ∧ w' = w := Any.asciiSet_contains Tryf.lays228 b x v w hc
open Go.RowKit Go.Lib in
theorem Tryf.strings_IndexAny_long (hv116 : ∀ w, (zeroValue 54).run Tryf.prog w = .ok (.agg (Array.replicate 256 (.bool false))) w) (s chars : ByteArray) (w : World) (h2 : 2 ≤ chars.size) (h8 : 8 < s.size) (hs : s.size < 4294967281) (hcs : chars.size < 4294967281) (hascii : ∀ (j : Nat) b, chars.data.toList[j]? = some b → b.toNat < 128) :
    Calls Tryf.prog 23 #[.string s, .string chars] w fun e w' => e = .returned (.int .i64 (Lib.indexAny s.data.toList chars.data.toList)) ∧ w' = ((w.alloc (.cells (Lib.setCells chars.data.toList) 54)).alloc (.cells (Lib.setCells chars.data.toList) 54)) := Any.strings_IndexAny_long Tryf.lays153 hv116 (by kernel_rfl) s chars w h2 h8 hs hcs hascii
open Go.RowKit Go.Lib in
theorem Tryf.strings_IndexAny (hv116 : ∀ w, (zeroValue 54).run Tryf.prog w = .ok (.agg (Array.replicate 256 (.bool false))) w) (s chars : ByteArray) (w : World) (hs : s.size < 4294967281) (hcs : chars.size < 4294967281) (has : ∀ (j : Nat) b, s.data.toList[j]? = some b → b.toNat < 128) (hac : ∀ (j : Nat) b, chars.data.toList[j]? = some b → b.toNat < 128) :
    Calls Tryf.prog 23 #[.string s, .string chars] w fun e w' => e = .returned (.int .i64 (Lib.indexAny s.data.toList chars.data.toList)) ∧ Below w.heap.size w w' := Any.strings_IndexAny Tryf.lays153 hv116 (by kernel_rfl) s chars w hs hcs has hac
open Go.RowKit Go.Lib in
theorem Tryf.strings_IndexAny_laid (s chars : ByteArray) (w : World) (hs : s.size < 4294967281) (hcs : chars.size < 4294967281) (has : ∀ (j : Nat) b, s.data.toList[j]? = some b → b.toNat < 128) (hac : ∀ (j : Nat) b, chars.data.toList[j]? = some b → b.toNat < 128) :
    Calls Tryf.prog 23 #[.string s, .string chars] w fun e w' => e = .returned (.int .i64 (Lib.indexAny s.data.toList chars.data.toList)) ∧ Below w.heap.size w w' := Any.strings_IndexAny_laid Tryf.lays153 (by kernel_rfl) s chars w hs hcs has hac
def Tryf.lays167_ren : Go.Shelf.Ren := ⟨fun | 167 => 22 | 240 => 25 | 276 => 32 | n => n, fun | 70 => 42 | 3 => 3 | 0 => 0 | 4 => 4 | 9 => 9 | 20 => 20 | 72 => 44 | 37 => 40 | 164 => 61 | 5 => 5 | 75 => 25 | 80 => 46 | n => n, fun | n => n⟩
theorem Tryf.lays167 : Go.Proofs.Lays.n167 Tryf.prog Tryf.lays167_ren := {
  mixed := by kernel_rfl
  f167 := Tryf.func22.trans (congrArg some (by kernel_rfl))
  f240 := Tryf.func25.trans (congrArg some (by kernel_rfl))
  f276 := Tryf.func32.trans (congrArg some (by kernel_rfl))
  t0 := Tryf.underlying0
  a0 := Tryf.isAgg0
  z0 := Tryf.sizeOf0
  v0 := Tryf.zeroValue0
  t4 := Tryf.underlying4
  a4 := Tryf.isAgg4
  z4 := Tryf.sizeOf4
  v4 := Tryf.zeroValue4
  t5 := Tryf.underlying5
  a5 := Tryf.isAgg5
  z5 := Tryf.sizeOf5
  v5 := Tryf.zeroValue5
  t9 := Tryf.underlying9
  a9 := Tryf.isAgg9
  z9 := Tryf.sizeOf9
  v9 := Tryf.zeroValue9
  t20 := Tryf.underlying20
  a20 := Tryf.isAgg20
  z20 := Tryf.sizeOf20
  v20 := Tryf.zeroValue20
  t37 := Tryf.underlying40
  a37 := Tryf.isAgg40
  z37 := Tryf.sizeOf40
  v37 := Tryf.zeroValue40
  t70 := Tryf.underlying42
  a70 := Tryf.isAgg42
  z70 := Tryf.sizeOf42
  v70 := Tryf.zeroValue42
  t72 := Tryf.underlying44
  a72 := Tryf.isAgg44
  z72 := Tryf.sizeOf44
  v72 := Tryf.zeroValue44
  t75 := Tryf.underlying25
  a75 := Tryf.isAgg25
  z75 := Tryf.sizeOf25
  v75 := Tryf.zeroValue25
  t164 := Tryf.underlying61
  a164 := Tryf.isAgg61
  z164 := Tryf.sizeOf61
  v164 := Tryf.zeroValue61 }
theorem Tryf.Builder_Extra_167 : Builder.Extra Tryf.prog Tryf.lays167_ren := {
  sizeBuilder := by kernel_rfl
  liesBuilder := by kernel_rfl
  t5 := Tryf.underlying5
  a5 := Tryf.isAgg5
  z5 := Tryf.sizeOf5
  v5 := Tryf.zeroValue5
  infoByte := by kernel_rfl
  cellsByte := by kernel_rfl
  sizeByte := by kernel_rfl
  neB5 := by decide }
open Go.RowKit in
theorem Tryf.Builder_WriteByte_k (B b : Nat) (bs : List Value) (c : Int) (w : World) (h : Lib.IsBuilderF 44 5 B b bs w) (hlen : bs.length + 1 ≤ 140737488355328) (hBw : B ≤ w.heap.size) :
    Calls Tryf.prog 22 #[.pointer (some ⟨b, 0, none⟩), .int .u8 c] w fun e w' => e = .returned .nilIface ∧ (Lib.BuilderAtF 44 5 B b (.pointer (some ⟨b, 0, none⟩)) (bs ++ [.int .u8 c]) w' ∧ Below B w w' ∧ Lib.OthersKept 5 (some b) w w') := Any.Builder_WriteByte_k Tryf.lays167 Tryf.Builder_Extra_167 B b bs c w h hlen hBw
end Go.Proofs
