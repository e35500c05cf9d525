/-
  readDBase7Header, ZZreadDBase7Header.
-/
import Derived.Test.Qxb6608875aHead
namespace Go.Proofs.Qxb6608875a
open Go.RowKit

theorem below_drewN {B : Nat} {a w : World} (h : Below B a w) (n : Nat) : Below B a (w.drewN n) := h.trans ⟨rfl, rfl, rfl, Nat.le_refl _, fun _ _ => rfl⟩

theorem info9 : (Try.prog.info? 9).map (·.size) = some 1 := by kernel_rfl
theorem store9 (w : World) (a : Addr) (s : ByteArray) (o : Value) (hc : w.cell? a = some o) (hf : w.frozen? a = false) :
    (storeVar 9 a (.string s)).run Try.prog w = .ok () (w.setCell a (.string s)) := by
  cases hq : Try.prog.info? 9 with
  | none => have := info9; rw [hq] at this; cases this
  | some i =>
    have hs : i.size = 1 := by have := info9; rw [hq] at this; simpa using this
    have ha : a.add 0 = a := by simp [Addr.add]
    simp [storeVar, Value.cells, sizeOf, typeInfo, hq, hs, storeCells, run_store Try.prog _ _ (.string s) _ rfl, ha, hc, hf, Result.andThen]

theorem stage (w1 : World) (z cells : Array Value) :
    (((w1.alloc (.cells z 29)).setRow w1.heap.size cells).alloc (.cells #[.int .u8 0] 5)).heap[w1.heap.size]? = some (.cells cells 29 (0, 0)) ∧
    Below w1.heap.size w1 (((w1.alloc (.cells z 29)).setRow w1.heap.size cells).alloc (.cells #[.int .u8 0] 5)) ∧
    (((w1.alloc (.cells z 29)).setRow w1.heap.size cells).alloc (.cells #[.int .u8 0] 5)).cell? ⟨w1.heap.size + 1, 0, none⟩ = some (.int .u8 0) := by
  have h1 : ((w1.alloc (.cells z 29)).setRow w1.heap.size cells).heap[w1.heap.size]? = some (.cells cells 29 (0, 0)) := setRow_heap _ _ _ _ _ _ (heap_alloc_new w1 _)
  have hsz : ((w1.alloc (.cells z 29)).setRow w1.heap.size cells).heap.size = w1.heap.size + 1 := by simp [World.setRow]
  have hb : Below w1.heap.size w1 ((w1.alloc (.cells z 29)).setRow w1.heap.size cells) := below_setRow ((Below.refl _ w1).alloc (Nat.le_refl _) _) (Nat.le_refl _) _
  refine ⟨?_, hb.alloc (by omega) _, ?_⟩
  · rw [Below.heap_alloc _ _ _ (by omega)]; exact h1
  · have := heap_alloc_new ((w1.alloc (.cells z 29)).setRow w1.heap.size cells) (.cells #[.int .u8 0] 5)
    rw [hsz] at this
    exact cell_of_row _ _ 0 _ _ _ this

theorem RB.far {R : Nat} {w : World} (h : RB R w) {a : Nat} (ha : R ≠ a) (k : Nat) (v : Value) : RB R (w.setCell ⟨a, k, none⟩ v) := by
  obtain ⟨cur, h1, h2⟩ := h
  exact ⟨cur, by rw [Below.heap_setCell _ _ _ _ ha]; exact h1, h2⟩

attribute [-go_sem] storeVar in
set_option maxHeartbeats 1000000 in
set_option maxRecDepth 100000 in
theorem read7_any (G n c : Nat) (bs : List UInt8) (w : World) (hB : Byt G bs w) (hn : bs.length = n) (h68 : 68 ≤ n) (hc : n ≤ c) (hcm : c ≤ 1048576) :
    Calls Try.prog 11 #[.slice (some ⟨G, 0, none⟩) n c] w fun e w' => e = .returned (.agg (headCells bs (nm (mid bs)))) ∧ Below w.heap.size w w' := by
  have HB : Hid (Byt G bs w) := hB
  clear hB
  have k4 : (64 : Int) ≤ (c : Int) := by omega
  have k5 : ¬ (c = 32) := by omega
  have hst : ∀ (R : Nat) (W : World) (a0 a1 a2 a3 a4 a5 a6 a7 a8 : Int) (s : ByteArray), RB R W →
      (storeVar 29 ⟨R, 0, none⟩ (.agg #[.int .i64 a0, .int .u8 a1, .int .i64 a2, .int .i64 a3, .int .i64 a4, .int .u32 a5, .int .i64 a6, .int .i64 a7, .int .u8 a8, .string s])).run Try.prog W =
        .ok () (W.setRow R #[.int .i64 a0, .int .u8 a1, .int .i64 a2, .int .i64 a3, .int .i64 a4, .int .u32 a5, .int .i64 a6, .int .i64 a7, .int .u8 a8, .string s]) :=
    fun R W a0 a1 a2 a3 a4 a5 a6 a7 a8 s h => h.store _ rfl (by simp [Value.oneCell'])
  go_enter Try.func11, Try.ntmps11
  go_wp2_with fail
  have hb0 := (Below.refl w.heap.size w).alloc (Nat.le_refl _) (.cells #[.int .i64 0, .int .u8 0, .int .i64 0, .int .i64 0, .int .i64 0, .int .u32 0, .int .i64 0, .int .i64 0, .int .u8 0, .string ⟨#[]⟩] 29)
  have hR0 : RB w.heap.size (w.alloc (.cells #[.int .i64 0, .int .u8 0, .int .i64 0, .int .i64 0, .int .i64 0, .int .u32 0, .int .i64 0, .int .i64 0, .int .u8 0, .string ⟨#[]⟩] 29)) := ⟨_, heap_alloc_new w _, rfl⟩
  refine (common_any G n c bs _ (HB.out.below hb0) hn h68 hc hcm).mono ?_
  rintro e w1 ⟨rfl, hb1⟩
  have hB1 : Hid (Byt G bs w1) := (HB.out.below hb0).below hb1
  have hR1 : Hid (RB w.heap.size w1) := hR0.below hb1
  have b1 : Hid (Below w.heap.size w w1) := hb0.trans (hb1.mono hb0.size)
  clear hb0 hb1 hR0 HB
  have hst1 : ∀ (R : Nat) (W : World), RB R W → (storeVar 29 ⟨R, 0, none⟩ (.agg (headCells bs []))).run Try.prog W = .ok () (W.setRow R (headCells bs [])) :=
    fun R W h => h.store _ rfl (by simp [headCells, Value.oneCell'])
  have hRn : RB w1.heap.size (w1.alloc (.cells #[.int .i64 0, .int .u8 0, .int .i64 0, .int .i64 0, .int .i64 0, .int .u32 0, .int .i64 0, .int .i64 0, .int .u8 0, .string ⟨#[]⟩] 29)) := ⟨_, heap_alloc_new w1 _, rfl⟩
  go_wp2_with fail
  obtain ⟨hg2, hb2, h02⟩ := stage w1 #[.int .i64 0, .int .u8 0, .int .i64 0, .int .i64 0, .int .i64 0, .int .u32 0, .int .i64 0, .int .i64 0, .int .u8 0, .string ⟨#[]⟩] (headCells bs [])
  clear hRn
  generalize (((w1.alloc (.cells #[.int .i64 0, .int .u8 0, .int .i64 0, .int .i64 0, .int .i64 0, .int .u32 0, .int .i64 0, .int .i64 0, .int .u8 0, .string ⟨#[]⟩] 29)).setRow w1.heap.size (headCells bs [])).alloc (.cells #[.int .u8 0] 5)) = W2 at *
  have hml := mid_len bs (by omega)
  have hB2 : Hid (Byt G bs W2) := hB1.out.below hb2
  have hR2 : Hid (RB w.heap.size W2) := hR1.out.below hb2
  have b2 : Hid (Below w.heap.size w W2) := b1.out.trans (hb2.mono b1.out.size)
  have hR1lt : w.heap.size < w1.heap.size := hR1.out.lt
  clear hB1 hR1 b1 hb2 hst1
  refine (cut_any G 32 32 (c - 32) (w1.heap.size + 1) 1 (mid bs) _ hml (fun i hi => hB2.out.mid i hi) h02 (by omega) (by omega)).mono ?_
  rintro e w3 ⟨⟨v2, v3, rfl⟩, q, rfl⟩
  have hconv : Hid (∀ m, (convert 22 9 (.slice (some ⟨G, 32, none⟩) (nm (mid bs)).length m)).run Try.prog (W2.drewN q) = .ok (.string ⟨(nm (mid bs)).toArray⟩) (W2.drewN q)) := fun m => name_conv G bs (W2.drewN q) ⟨hB2.out.1, hB2.out.2⟩ m (by omega)
  have b3 : Hid (Below w.heap.size w (W2.drewN q)) := below_drewN b2.out q
  have hR3 : Hid (RB w.heap.size (W2.drewN q)) := hR2.out
  have hg3 : (W2.drewN q).heap[w1.heap.size]? = some (.cells (headCells bs []) 29 (0, 0)) := hg2
  clear h02 hB2 b2 hR2 hg2
  generalize W2.drewN q = w3 at *
  have e0 := cell_of_row w3 w1.heap.size 0 _ _ _ hg3
  have e1 := cell_of_row w3 w1.heap.size 1 _ _ _ hg3
  have e2 := cell_of_row w3 w1.heap.size 2 _ _ _ hg3
  have e3 := cell_of_row w3 w1.heap.size 3 _ _ _ hg3
  have e4 := cell_of_row w3 w1.heap.size 4 _ _ _ hg3
  have e5 := cell_of_row w3 w1.heap.size 5 _ _ _ hg3
  have e6 := cell_of_row w3 w1.heap.size 6 _ _ _ hg3
  have e7 := cell_of_row w3 w1.heap.size 7 _ _ _ hg3
  have e8 := cell_of_row w3 w1.heap.size 8 _ _ _ hg3
  have e9 := cell_of_row w3 w1.heap.size 9 _ _ _ hg3
  have hf9 : w3.frozen? ⟨w1.heap.size, 9, none⟩ = false := by simp [World.frozen?, hg3]
  simp only [headCells, List.getElem?_toArray, List.getElem?_cons_zero, List.getElem?_cons_succ] at e0 e1 e2 e3 e4 e5 e6 e7 e8 e9
  have hst9 : ∀ s : ByteArray, (storeVar 9 ⟨w1.heap.size, 9, none⟩ (.string s)).run Try.prog w3 = .ok () (w3.setCell ⟨w1.heap.size, 9, none⟩ (.string s)) := fun s => store9 _ _ _ _ e9 hf9
  have hRB3 : ∀ s, RB w.heap.size (w3.setCell ⟨w1.heap.size, 9, none⟩ (.string s)) := fun s => hR3.out.far (by omega) _ _
  have hcv := hconv.out (c - 32)
  clear hg3 
  go_wp2
  have hRE := (hRB3 ⟨(nm (mid bs)).toArray⟩).setRow (headCells bs (nm (mid bs))) rfl
  exact bodyPost_ret (results_cell29 Try.results11 _ w.heap.size rfl _ _ hRE.setRow_heap rfl) rfl ⟨rfl, below_setRow (b3.out.setCell (p := ⟨w1.heap.size, 9, none⟩) (by simp; omega) _) (Nat.le_refl _) _⟩
end Go.Proofs.Qxb6608875a
