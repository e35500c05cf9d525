/-
  THE HEADER: readCommonHeader, readDBase7Header, ZZreadDBase7Header.
-/
import Derived.Test.Qxb6608875aCut
import Derived.Test.Qxb6608875aShelf
import Derived.Deep.RegionHeld3
import Derived.Laws.Tables
import Derived.Laws.Rows
import Derived.Laws.CopyOwn
namespace Go.Proofs.Qxb6608875a
open Go.RowKit

def dY (y m d : UInt8) : Int := if (y.toNat = 0 ∧ m.toNat = 0) ∧ d.toNat = 0 then 0 else 1900 + y.toNat
theorem dateV_eq (y m d : UInt8) : dateV y m d = .agg #[.int .i64 (dY y m d), .int .i64 m.toNat, .int .i64 d.toNat] := by
  unfold dateV dY
  by_cases h : (y.toNat = 0 ∧ m.toNat = 0) ∧ d.toNat = 0
  · rw [if_pos h, if_pos h, h.1.2, h.2]; rfl
  · rw [if_neg h, if_neg h]

/-- The ten cells of a header. -/
def headCells (bs : List UInt8) (nam : List UInt8) : Array Value :=
  #[.int .i64 0, .int .u8 (bt bs 0).toNat, .int .i64 (dY (bt bs 1) (bt bs 2) (bt bs 3)), .int .i64 (bt bs 2).toNat, .int .i64 (bt bs 3).toNat,
    .int .u32 (Lib.leNat [bt bs 4, bt bs 5, bt bs 6, bt bs 7]), .int .i64 (Lib.leNat [bt bs 8, bt bs 9]), .int .i64 (Lib.leNat [bt bs 10, bt bs 11]), .int .u8 (bt bs 29).toNat, .string ⟨nam.toArray⟩]

/-- A block of ten cells that nothing has frozen. -/
def RB (R : Nat) (w : World) : Prop := ∃ cur : Array Value, w.heap[R]? = some (.cells cur 29 (0, 0)) ∧ cur.size = 10
def rc (R k : Nat) (w : World) : Value := (w.cell? ⟨R, k, none⟩).getD undef
theorem RB.cell {R : Nat} {w : World} (h : RB R w) (k : Nat) (hk : k < 10) : w.cell? ⟨R, k, none⟩ = some (rc R k w) := by
  obtain ⟨cur, h1, h2⟩ := h
  have e : w.cell? ⟨R, k, none⟩ = cur[k]? := by simp [World.cell?, h1]
  unfold rc
  rw [e, Array.getElem?_eq_getElem (by omega)]
  rfl
theorem RB.frozen {R : Nat} {w : World} (h : RB R w) (k : Nat) : w.frozen? ⟨R, k, none⟩ = false := by
  obtain ⟨cur, h1, h2⟩ := h
  simp [World.frozen?, h1]
theorem RB.lt {R : Nat} {w : World} (h : RB R w) : R < w.heap.size := by
  obtain ⟨cur, h1, h2⟩ := h
  exact (Array.getElem?_eq_some_iff.1 h1).1
theorem RB.below {R : Nat} {w w' : World} (h : RB R w) (hb : Below w.heap.size w w') : RB R w' := by
  have := h.lt
  obtain ⟨cur, h1, h2⟩ := h
  exact ⟨cur, by rw [hb.block R this]; exact h1, h2⟩
theorem RB.set {R : Nat} {w : World} (h : RB R w) (k : Nat) (v : Value) : RB R (w.setCell ⟨R, k, none⟩ v) := by
  obtain ⟨cur, h1, h2⟩ := h
  refine ⟨cur.setIfInBounds k v, ?_, by simpa using h2⟩
  simp [World.setCell, Array.getElem?_modify, h1]

/-- What stands through the common header's region. -/
def CS (G : Nat) (bs : List UInt8) (w W : World) : Prop :=
  W.cell? ⟨G, 0, none⟩ = some (.int .u8 (bt bs 0).toNat) ∧ W.cell? ⟨G, 1, none⟩ = some (.int .u8 (bt bs 1).toNat) ∧ W.cell? ⟨G, 2, none⟩ = some (.int .u8 (bt bs 2).toNat) ∧ W.cell? ⟨G, 3, none⟩ = some (.int .u8 (bt bs 3).toNat) ∧ W.cell? ⟨G, 29, none⟩ = some (.int .u8 (bt bs 29).toNat) ∧
    Hid (Byt G bs W) ∧ Hid (Below w.heap.size w W) ∧ RB w.heap.size W
theorem CS.mk {G : Nat} {bs : List UInt8} {w W : World} (h68 : 68 ≤ bs.length) (hB : Byt G bs W) (hb : Below w.heap.size w W) (hR : RB w.heap.size W) : CS G bs w W :=
  ⟨hB.cell 0 (by omega), hB.cell 1 (by omega), hB.cell 2 (by omega), hB.cell 3 (by omega), hB.cell 29 (by omega), hB, hb, hR⟩
theorem CS.byt {G : Nat} {bs : List UInt8} {w W : World} (h : CS G bs w W) : Byt G bs W := h.2.2.2.2.2.1.out
theorem CS.bel {G : Nat} {bs : List UInt8} {w W : World} (h : CS G bs w W) : Below w.heap.size w W := h.2.2.2.2.2.2.1.out
theorem CS.rb {G : Nat} {bs : List UInt8} {w W : World} (h : CS G bs w W) : RB w.heap.size W := h.2.2.2.2.2.2.2
theorem CS.below {G : Nat} {bs : List UInt8} {w W W' : World} (h68 : 68 ≤ bs.length) (h : CS G bs w W) (hb : Below W.heap.size W W') : CS G bs w W' :=
  CS.mk h68 (h.byt.below hb) (h.bel.trans (hb.mono h.bel.size)) (h.rb.below hb)
theorem Byt.far {G : Nat} {bs : List UInt8} {w : World} (h : Byt G bs w) {a : Addr} (ha : a.block ≠ G) (v : Value) : Byt G bs (w.setCell a v) :=
  ⟨by simpa using h.1, fun j hj => by rw [World.cell?_setCell_far _ _ _ _ ha]; exact h.2 j hj⟩
theorem CS.set {G : Nat} {bs : List UInt8} {w W : World} (h68 : 68 ≤ bs.length) (hG : G < w.heap.size) (k : Nat) (v : Value) (h : CS G bs w W) : CS G bs w (W.setCell ⟨w.heap.size, k, none⟩ v) :=
  CS.mk h68 (h.byt.far (by simp; omega) v) (h.bel.setCell (p := ⟨w.heap.size, k, none⟩) (Nat.le_refl _) v) (h.rb.set k v)

theorem RB.setRow {R : Nat} {w : World} (h : RB R w) (cells : Array Value) (hs : cells.size = 10) : RB R (w.setRow R cells) := by
  obtain ⟨cur, h1, h2⟩ := h
  exact ⟨cells, setRow_heap w R cur cells 29 (0, 0) h1, hs⟩
theorem info29 : (Try.prog.info? 29).map (·.size) = some 10 := by kernel_rfl
theorem RB.store {R : Nat} {w : World} (h : RB R w) (cells : Array Value) (hs : cells.size = 10) (h1 : cells.all (·.oneCell') = true) :
    (storeVar 29 ⟨R, 0, none⟩ (.agg cells)).run Try.prog w = .ok () (w.setRow R cells) := by
  obtain ⟨cur, h2, h3⟩ := h
  exact run_storeVar_row w R 29 29 cur cells h2 (by rw [hs]; exact info29) (by omega) h1
theorem Byt.farRow {G : Nat} {bs : List UInt8} {w : World} (h : Byt G bs w) {R : Nat} (hR : R ≠ G) (cells : Array Value) : Byt G bs (w.setRow R cells) :=
  ⟨by simpa [World.setRow] using h.1, fun j hj => by rw [World.cell?_of_block (w := w) (setRow_other w R G cells (Ne.symm hR))]; exact h.2 j hj⟩
theorem CS.setRow {G : Nat} {bs : List UInt8} {w W : World} (h68 : 68 ≤ bs.length) (hG : G < w.heap.size) (cells : Array Value) (hs : cells.size = 10) (h : CS G bs w W) : CS G bs w (W.setRow w.heap.size cells) :=
  CS.mk h68 (h.byt.farRow (by omega) cells) (below_setRow h.bel (Nat.le_refl _) cells) (h.rb.setRow cells hs)

theorem RB.setRow_heap {R : Nat} {w : World} {cells : Array Value} (h : RB R (w.setRow R cells)) : (w.setRow R cells).heap[R]? = some (.cells cells 29 (0, 0)) := by
  obtain ⟨cur, h1, h2⟩ := h
  rw [h1]
  simp only [World.setRow, Array.getElem?_modify, if_pos] at h1
  cases hq : w.heap[R]? with
  | none => rw [hq] at h1; cases h1
  | some o =>
    rw [hq] at h1
    cases o <;> simp at h1
    obtain ⟨rfl, rfl, rfl⟩ := h1
    rfl
theorem results_cell29 {fn : Func} {p : Tmp} (h : fn.results = #[.cell p 29]) (tmps : Array Value) (R : Nat) (hp : tmps.getD p undef = .pointer (some ⟨R, 0, none⟩)) (W : World) (cells : Array Value)
    (hg : W.heap[R]? = some (.cells cells 29 (0, 0))) (hs : cells.size = 10) : (results fn tmps).run Try.prog W = .ok (.agg cells) W := by
  have hl := run_loadVar_row (P := Try.prog) W R 29 29 cells (0, 0) _ hg Try.underlying29 rfl (by rw [hs]; exact info29)
  have hp' : tmps[p]?.getD undef = .pointer (some ⟨R, 0, none⟩) := by rw [← hp]; simp [Array.getD_eq_getD_getElem?]
  simp only [results, h]
  simp [hp', asAddr, hl]
theorem wrap16 (x y : UInt8) : IntKind.i64.wrap ((Lib.leNat [x, y] : Nat) : Int) = ((Lib.leNat [x, y] : Nat) : Int) := by
  have h1 := hv16 x y
  have hx : x.toNat < 256 := x.toNat_lt
  have hy : y.toNat < 256 := y.toNat_lt
  rw [IntKind.wrap_i64]; omega

theorem u16c {G : Nat} {bs : List UInt8} {w W : World} (h : CS G bs w W) (o c : Nat) (ho : o + 1 < bs.length) :
    Calls Try.prog 16 #[.agg #[], .slice (some ⟨G, o, none⟩) 2 c] W fun e w' => e = .returned (.int .u16 (Lib.leNat [bt bs o, bt bs (o + 1)])) ∧ Below W.heap.size W w' :=
  Try.binary_LE_Uint16 G o 2 c _ _ W (by omega) (h.byt.cell o (by omega)) (h.byt.cell (o + 1) ho)
theorem u32c {G : Nat} {bs : List UInt8} {w W : World} (h : CS G bs w W) (o c : Nat) (ho : o + 3 < bs.length) :
    Calls Try.prog 15 #[.agg #[], .slice (some ⟨G, o, none⟩) 4 c] W fun e w' => e = .returned (.int .u32 (Lib.leNat [bt bs o, bt bs (o + 1), bt bs (o + 2), bt bs (o + 3)])) ∧ Below W.heap.size W w' :=
  Try.binary_LE_Uint32 G o 4 c _ _ _ _ W (by omega) (h.byt.cell o (by omega)) (h.byt.cell (o + 1) (by omega)) (h.byt.cell (o + 2) (by omega)) (h.byt.cell (o + 3) ho)

attribute [-go_sem] storeVar in
set_option maxHeartbeats 1000000 in
set_option maxRecDepth 100000 in
theorem common_any (G n c : Nat) (bs : List UInt8) (w : World) (hB : Byt G bs w) (hn : bs.length = n) (h68 : 68 ≤ n) (hc : n ≤ c) (hcm : c ≤ 1048576) :
    Calls Try.prog 12 #[.slice (some ⟨G, 0, none⟩) n c] w fun e w' => e = .returned (.agg (headCells bs [])) ∧ Below w.heap.size w w' := by
  have HB : Hid (Byt G bs w) := hB
  have g : G < w.heap.size := hB.1
  clear hB
  have k4 : (8 : Int) ≤ (c : Int) := by omega
  have k8 : (10 : Int) ≤ (c : Int) := by omega
  have k10 : (12 : Int) ≤ (c : Int) := by omega
  have n0 : 0 < n := by omega
  have n1 : (1 : Int) < (n : Int) := by omega
  have n2 : (2 : Int) < (n : Int) := by omega
  have n3 : (3 : Int) < (n : Int) := by omega
  have n29 : (29 : Int) < (n : Int) := by omega
  have hcc : (c : Int) ≤ (c : Int) := by omega
  have hl68 : 68 ≤ bs.length := by omega
  have HCS : Hid (CS G bs w (w.alloc (.cells #[.int .i64 0, .int .u8 0, .int .i64 0, .int .i64 0, .int .i64 0, .int .u32 0, .int .i64 0, .int .i64 0, .int .u8 0, .string ⟨#[]⟩] 29)).drew) :=
    CS.mk hl68 ((HB.out.below ((Below.refl _ w).alloc (Nat.le_refl _) _)).below (Below.drew (Below.refl _ _))) (Below.drew ((Below.refl _ w).alloc (Nat.le_refl _) _)) ⟨_, heap_alloc_new w _, rfl⟩
  have hw8 : IntKind.i64.wrap ((Lib.leNat [bt bs 8, bt bs 9] : Nat) : Int) = ((Lib.leNat [bt bs 8, bt bs 9] : Nat) : Int) := wrap16 _ _
  have hw10 : IntKind.i64.wrap ((Lib.leNat [bt bs 10, bt bs 11] : Nat) : Int) = ((Lib.leNat [bt bs 10, bt bs 11] : Nat) : Int) := wrap16 _ _
  have hst : ∀ (W : World) (a0 a1 a2 a3 a4 a5 a6 a7 a8 : Int) (s : ByteArray), RB w.heap.size W →
      (storeVar 29 ⟨w.heap.size, 0, none⟩ (.agg #[.int .i64 a0, .int .u8 a1, .int .i64 a2, .int .i64 a3, .int .i64 a4, .int .u32 a5, .int .i64 a6, .int .i64 a7, .int .u8 a8, .string s])).run Try.prog W =
        .ok () (W.setRow w.heap.size #[.int .i64 a0, .int .u8 a1, .int .i64 a2, .int .i64 a3, .int .i64 a4, .int .u32 a5, .int .i64 a6, .int .i64 a7, .int .u8 a8, .string s]) :=
    fun W a0 a1 a2 a3 a4 a5 a6 a7 a8 s h => h.store _ rfl (by simp [Value.oneCell'])
  go_enter Try.func12, Try.ntmps12
  go_wp2_with fail
  go_region_held3 (fun W => W.cell? ⟨G, 0, none⟩ = some (.int .u8 (bt bs 0).toNat) ∧ W.cell? ⟨G, 1, none⟩ = some (.int .u8 (bt bs 1).toNat) ∧ W.cell? ⟨G, 2, none⟩ = some (.int .u8 (bt bs 2).toNat) ∧ W.cell? ⟨G, 3, none⟩ = some (.int .u8 (bt bs 3).toNat) ∧ W.cell? ⟨G, 29, none⟩ = some (.int .u8 (bt bs 29).toNat) ∧
    Hid (Byt G bs W) ∧ Hid (Below w.heap.size w W) ∧ RB w.heap.size W)
    (first
      | exact HCS.out
      | exact CS.below hl68 (by assumption) hb
      | exact CS.setRow hl68 g _ rfl (by assumption))
    (first
      | (go_at_call 14; refine (storedDate_any (bt bs 1) (bt bs 2) (bt bs 3) _).mono ?_; rintro e w' ⟨rfl, hb⟩; rw [dateV_eq])
      | (go_at_call 15; refine (u32c (G := G) (bs := bs) (w := w) (by assumption) _ _ (by omega)).mono ?_; rintro e w' ⟨rfl, hb⟩)
      | (go_at_call 16; refine (u16c (G := G) (bs := bs) (w := w) (by assumption) _ _ (by omega)).mono ?_; rintro e w' ⟨rfl, hb⟩))
  have hcs : CS G bs w _ := (by assumption)
  clear hst HCS
  go_wp2
  exact bodyPost_ret (results_cell29 Try.results12 _ w.heap.size rfl _ _ hcs.rb.setRow_heap rfl) rfl ⟨rfl, hcs.bel⟩
end Go.Proofs.Qxb6608875a
