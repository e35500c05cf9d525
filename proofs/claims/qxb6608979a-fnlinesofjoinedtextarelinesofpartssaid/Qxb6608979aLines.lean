/-
  Lines: the first call (the closure runs), the call again.
-/
import Derived.Test.Qxb6608979aMem
import Derived.Test.Qxb6608979aSync
namespace Go.Proofs.Qxb6608979a
open Go.RowKit

/-- The slice v holds these lines. -/
def LinesAt (W : World) (v : Value) (L : List (List Int)) : Prop :=
  ∃ S cap, v = .slice (some ⟨S, 0, none⟩) L.length cap ∧ L.length ≤ cap ∧ S < W.heap.size ∧ ∀ j (h : j < L.length), ∃ a c, W.cell? ⟨S, j, none⟩ = some (.slice a L[j].length c) ∧ Runes W a L[j]

theorem LinesAt.below {W W' : World} {v : Value} {L : List (List Int)} (h : LinesAt W v L) (hb : Below W.heap.size W W') : LinesAt W' v L := by
  obtain ⟨S, cap, rfl, hc, hS, hj⟩ := h
  refine ⟨S, cap, rfl, hc, by have := hb.size; omega, fun j hjl => ?_⟩
  obtain ⟨a, c, h1, h2⟩ := hj j hjl
  exact ⟨a, c, by rw [hb.cell hS]; exact h1, h2.below hb⟩

theorem seg_runes {W : World} {R c : Nat} {s : ByteArray} {a : Option Addr} {l : List Int} (hr : W.heap[R]? = some (.cells (runeRow s c) 21 (0, 0))) (h : Seg R (rn s) a l) : Runes W a l := fun hl => by
  obtain ⟨o, rfl, ho, hm⟩ := h hl
  refine ⟨R, o, rfl, (Array.getElem?_eq_some_iff.1 hr).1, fun m hml => ?_⟩
  rw [cell_of_row W R (o + m) _ _ _ hr, runeRow_at s c (o + m) (by omega), hm m hml (by omega)]

/-- What 'Do' leaves. -/
theorem after_do {w w1 : World} {B V : Nat} {s : ByteArray} (h : CloPost w B V s w1) (hB : B < w.heap.size) (hVB : V ≠ B) :
    ∃ v, (((w1.drew.setCell ⟨B, 0, none⟩ (.int .u32 1)).setCell ⟨B, 1, none⟩ (.int .i32 0)).cell? ⟨V, 0, none⟩ = some (.pointer (some ⟨B, 0, none⟩))) ∧
      LinesAt ((w1.drew.setCell ⟨B, 0, none⟩ (.int .u32 1)).setCell ⟨B, 1, none⟩ (.int .i32 0)) v (lns (rn s)) ∧
      Txt B (.string ⟨#[]⟩) v 1 0 ((w1.drew.setCell ⟨B, 0, none⟩ (.int .u32 1)).setCell ⟨B, 1, none⟩ (.int .i32 0)) ∧
      Below B w ((w1.drew.setCell ⟨B, 0, none⟩ (.int .u32 1)).setCell ⟨B, 1, none⟩ (.int .i32 0)) := by
  obtain ⟨R, c, vs, xs, hcm, hvl⟩ := h
  have hpos : 0 < (lns (rn s)).length := by rw [lns_len]; omega
  have hheap : ∀ k, k ≠ B → ((w1.drew.setCell ⟨B, 0, none⟩ (.int .u32 1)).setCell ⟨B, 1, none⟩ (.int .i32 0)).heap[k]? = w1.heap[k]? := fun k hk => by
    rw [Below.heap_setCell _ _ _ _ (by simpa using hk), Below.heap_setCell _ _ _ _ (by simpa using hk)]; rfl
  have hsz : ((w1.drew.setCell ⟨B, 0, none⟩ (.int .u32 1)).setCell ⟨B, 1, none⟩ (.int .i32 0)).heap.size = w1.heap.size := by simp
  have htx : Txt B (.string ⟨#[]⟩) vs 1 0 ((w1.drew.setCell ⟨B, 0, none⟩ (.int .u32 1)).setCell ⟨B, 1, none⟩ (.int .i32 0)) := by
    have h0 : Txt B (.string ⟨#[]⟩) vs 0 1 w1.drew := hcm.txt
    exact (h0.set0 (d' := 1)).set1 (st' := 0)
  have hRB : R ≠ B := fun e => by
    subst e; have := hcm.rune; rw [hcm.txt] at this; injection Option.some.inj this with _ h2 _; exact absurd h2 (by decide)
  refine ⟨vs, ?_, ?_, htx, ?_⟩
  · rw [World.cell?_of_block (w := w1) (hheap V hVB)]; exact hcm.var
  · rcases hcm.row.2 with ⟨_, h0⟩ | ⟨g, cap, cur, rfl, hg, hgc, hn, _, hcs, hcur⟩
    · omega
    · have hgB : g ≠ B := by omega
      refine ⟨g, cap, rfl, hn, by rw [hsz]; exact (Array.getElem?_eq_some_iff.1 hgc).1, fun j hj => ?_⟩
      obtain ⟨a, c', h1, h2⟩ := hvl j hj
      refine ⟨a, c', ?_, seg_runes (R := R) (c := c) (s := s) (by rw [hheap R hRB]; exact hcm.rune) h2⟩
      rw [cell_of_row _ g j _ _ _ ((hheap g hgB).trans hgc)]
      rw [← hcur] at h1
      rw [List.getElem?_take_of_lt (by omega)] at h1
      simpa using h1
  · exact ((hcm.bel.drew).setCell (p := ⟨B, 0, none⟩) (Nat.le_refl _) _).setCell (p := ⟨B, 1, none⟩) (Nat.le_refl _) _

theorem hmf (fn : Fn) (first cap : Array Value) (w : World) : (Instr.makeFunc fn first cap).run Try.prog w = .ok (.func fn first cap) w := rfl

set_option maxRecDepth 100000 in
theorem lines_first (hclo : CloHolds) (B : Nat) (s : ByteArray) (w : World) (hT : Txt B (.string s) (.slice none 0 0) 0 0 w) (hs : s.size ≤ 1048576) :
    Calls Try.prog 7 #[.pointer (some ⟨B, 0, none⟩)] w fun e w' => ∃ v, e = .returned v ∧ LinesAt w' v (lns (rn s)) ∧ Txt B (.string ⟨#[]⟩) v 1 0 w' ∧ Below B w w' := by
  have hBlt := hT.lt
  have hT1 : Txt B (.string s) (.slice none 0 0) 0 0 (w.alloc (.cells #[.pointer (some ⟨B, 0, none⟩)] 23)) := hT.block (Below.heap_alloc _ _ _ hBlt)
  have hVc : (w.alloc (.cells #[.pointer (some ⟨B, 0, none⟩)] 23)).cell? ⟨w.heap.size, 0, none⟩ = some (.pointer (some ⟨B, 0, none⟩)) := by
    rw [cell_of_row _ _ 0 _ _ _ (heap_alloc_new w _)]; rfl
  have hVB : w.heap.size ≠ B := by omega
  have hB1 : B < (w.alloc (.cells #[.pointer (some ⟨B, 0, none⟩)] 23)).heap.size := by simp; omega
  have hV1 : ((w.alloc (.cells #[.pointer (some ⟨B, 0, none⟩)] 23)).setCell ⟨B, 1, none⟩ (.int .i32 1)).cell? ⟨w.heap.size, 0, none⟩ = some (.pointer (some ⟨B, 0, none⟩)) := by
    rw [World.cell?_setCell_far _ _ _ _ (by simpa using hVB.symm)]; exact hVc
  have hdo := do_first B ⟨w.heap.size, 0, none⟩ (w.alloc (.cells #[.pointer (some ⟨B, 0, none⟩)] 23)) (CloPost ((w.alloc (.cells #[.pointer (some ⟨B, 0, none⟩)] 23)).setCell ⟨B, 1, none⟩ (.int .i32 1)) B w.heap.size s)
    hT1.c0 hT1.c1 (hT1.tb.frozen 1) (hclo B w.heap.size s _ (hT1.set1 (st' := 1)) hV1 hVB hs)
    (fun w' h => by
      obtain ⟨R, c, vs, xs, hcm, _⟩ := h
      exact ⟨hcm.txt.c0, hcm.txt.c1, hcm.txt.tb.frozen 0, hcm.txt.tb.frozen 1⟩)
  have HDO : Hid (Calls Try.prog 11 #[.pointer (some ⟨B, 0, none⟩), .func (.func 12) #[] #[.pointer (some ⟨w.heap.size, 0, none⟩)]] (w.alloc (.cells #[.pointer (some ⟨B, 0, none⟩)] 23)) fun e w' => e = .returned (.tuple #[]) ∧
      ∃ v, w'.cell? ⟨w.heap.size, 0, none⟩ = some (.pointer (some ⟨B, 0, none⟩)) ∧ LinesAt w' v (lns (rn s)) ∧ Txt B (.string ⟨#[]⟩) v 1 0 w' ∧ Below B w w') := by
    refine hdo.mono ?_
    rintro e w' ⟨rfl, w1, h1, rfl⟩
    obtain ⟨v, a1, a2, a3, a4⟩ := after_do h1 (by simp; omega) hVB
    have b0 : Below B w (w.alloc (.cells #[.pointer (some ⟨B, 0, none⟩)] 23)) := (Below.refl _ _).alloc (Nat.le_of_lt hBlt) _
    exact ⟨rfl, v, a1, a2, a3, (b0.setCell (p := ⟨B, 1, none⟩) (Nat.le_refl _) _).trans a4⟩
  clear hdo hT hT1 hV1 hB1
  have hmf' := hmf
  go_enter Try.func7, Try.ntmps7
  go_wp2_with (go_at_call 11; refine HDO.out.mono ?_; rintro e w' ⟨rfl, v, hv0, hla, htx, hbl⟩; have hv4 := htx.c4)
  go_ret
  exact ⟨v, rfl, hla, htx, hbl⟩

set_option maxRecDepth 100000 in
theorem lines_again (B : Nat) (src v : Value) (st : Int) (w : World) (hT : Txt B src v 1 st w) :
    Calls Try.prog 7 #[.pointer (some ⟨B, 0, none⟩)] w fun e w' => e = .returned v ∧ Below w.heap.size w w' := by
  have hBlt := hT.lt
  have hT1 : Txt B src v 1 st (w.alloc (.cells #[.pointer (some ⟨B, 0, none⟩)] 23)) := hT.block (Below.heap_alloc _ _ _ hBlt)
  have hVc : (w.alloc (.cells #[.pointer (some ⟨B, 0, none⟩)] 23)).cell? ⟨w.heap.size, 0, none⟩ = some (.pointer (some ⟨B, 0, none⟩)) := by
    rw [cell_of_row _ _ 0 _ _ _ (heap_alloc_new w _)]; rfl
  have h4 := hT1.c4
  have h0 := hT1.c0
  have hmf' := hmf
  clear hT hT1
  go_enter Try.func7, Try.ntmps7
  go_wp2_with (go_at_call 11; refine (do_done ⟨B, 0, none⟩ _ _ h0).mono ?_; rintro e w' ⟨rfl, rfl⟩)
  go_ret
  exact ⟨rfl, (Below.refl _ _).alloc (Nat.le_refl _) _⟩
end Go.Proofs.Qxb6608979a
