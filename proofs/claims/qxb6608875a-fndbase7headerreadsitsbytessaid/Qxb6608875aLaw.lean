/-
  THE WALK of FnDBase7HeaderReadsItsBytes.
-/
import Derived.Test.Qxb6608875aZz
import Derived.Laws.Cover3
namespace Go.Proofs.Qxb6608875a
open Go.RowKit

def cellsOf (bs : List UInt8) : List Value := bs.map fun b => .int .u8 (b.toNat : Int)
theorem info5 : (Try.prog.info? 5).map (fun i => (i.zero, i.size, i.bytes)) = some (some (.int .u8 0), 1, 1) := by kernel_rfl
theorem size5 : (Try.prog.info? 5).map (·.size) = some 1 := by kernel_rfl

theorem byt_of_splice {G : Nat} {bs : List UInt8} {w : World} {cur : List Value} (h : w.heap[G]? = some (.cells (splice cur 0 (cellsOf bs)).toArray 5 (0, 0))) : Byt G bs w := by
  refine ⟨(Array.getElem?_eq_some_iff.1 h).1, fun j hj => ?_⟩
  rw [cell_of_row w G j _ _ _ h]
  simp [splice, cellsOf, List.getElem?_append, hj]

/-- The header's ten cells at a block. -/
def HC (R : Nat) (bs : List UInt8) (w : World) : Prop := w.heap[R]? = some (.cells (headCells bs (nm (mid bs))) 29 (0, 0))
theorem HC.below {R : Nat} {bs : List UInt8} {w w' : World} (h : HC R bs w) (hb : Below w.heap.size w w') : HC R bs w' := by
  unfold HC
  rw [hb.block R (Array.getElem?_eq_some_iff.1 h).1]; exact h
theorem HC.at {R : Nat} {bs : List UInt8} {w : World} (h : HC R bs w) (k : Nat) : w.cell? ⟨R, k, none⟩ = (headCells bs (nm (mid bs)))[k]? := cell_of_row w R k _ _ _ h

theorem HC.c0 {R : Nat} {bs : List UInt8} {w : World} (h : HC R bs w) : w.cell? ⟨R, 0, none⟩ = some (.int .i64 0) := (h.at 0).trans rfl
theorem HC.c1 {R : Nat} {bs : List UInt8} {w : World} (h : HC R bs w) : w.cell? ⟨R, 1, none⟩ = some (.int .u8 (bt bs 0).toNat) := (h.at 1).trans rfl
theorem HC.c2 {R : Nat} {bs : List UInt8} {w : World} (h : HC R bs w) : w.cell? ⟨R, 2, none⟩ = some (.int .i64 (dY (bt bs 1) (bt bs 2) (bt bs 3))) := (h.at 2).trans rfl
theorem HC.c3 {R : Nat} {bs : List UInt8} {w : World} (h : HC R bs w) : w.cell? ⟨R, 3, none⟩ = some (.int .i64 (bt bs 2).toNat) := (h.at 3).trans rfl
theorem HC.c4 {R : Nat} {bs : List UInt8} {w : World} (h : HC R bs w) : w.cell? ⟨R, 4, none⟩ = some (.int .i64 (bt bs 3).toNat) := (h.at 4).trans rfl
theorem HC.c5 {R : Nat} {bs : List UInt8} {w : World} (h : HC R bs w) : w.cell? ⟨R, 5, none⟩ = some (.int .u32 (Lib.leNat [bt bs 4, bt bs 5, bt bs 6, bt bs 7])) := (h.at 5).trans rfl
theorem HC.c6 {R : Nat} {bs : List UInt8} {w : World} (h : HC R bs w) : w.cell? ⟨R, 6, none⟩ = some (.int .i64 (Lib.leNat [bt bs 8, bt bs 9])) := (h.at 6).trans rfl
theorem HC.c7 {R : Nat} {bs : List UInt8} {w : World} (h : HC R bs w) : w.cell? ⟨R, 7, none⟩ = some (.int .i64 (Lib.leNat [bt bs 10, bt bs 11])) := (h.at 7).trans rfl
theorem HC.c8 {R : Nat} {bs : List UInt8} {w : World} (h : HC R bs w) : w.cell? ⟨R, 8, none⟩ = some (.int .u8 (bt bs 29).toNat) := (h.at 8).trans rfl
theorem HC.c9 {R : Nat} {bs : List UInt8} {w : World} (h : HC R bs w) : w.cell? ⟨R, 9, none⟩ = some (.string ⟨(nm (mid bs)).toArray⟩) := (h.at 9).trans rfl

/-- What stands through the region of the date's test. -/
def DS (G R : Nat) (bs : List UInt8) (w W : World) : Prop :=
  W.cell? ⟨R, 2, none⟩ = some (.int .i64 (dY (bt bs 1) (bt bs 2) (bt bs 3))) ∧ W.cell? ⟨R, 3, none⟩ = some (.int .i64 (bt bs 2).toNat) ∧ W.cell? ⟨R, 4, none⟩ = some (.int .i64 (bt bs 3).toNat) ∧
    W.cell? ⟨G, 1, none⟩ = some (.int .u8 (bt bs 1).toNat) ∧ W.cell? ⟨G, 2, none⟩ = some (.int .u8 (bt bs 2).toNat) ∧ W.cell? ⟨G, 3, none⟩ = some (.int .u8 (bt bs 3).toNat) ∧
    Hid (Byt G bs W) ∧ Hid (HC R bs W) ∧ Hid (Below w.heap.size w W)
theorem DS.mk {G R : Nat} {bs : List UInt8} {w W : World} (h68 : 68 ≤ bs.length) (hB : Byt G bs W) (hH : HC R bs W) (hb : Below w.heap.size w W) : DS G R bs w W :=
  ⟨hH.c2, hH.c3, hH.c4, hB.cell 1 (by omega), hB.cell 2 (by omega), hB.cell 3 (by omega), hB, hH, hb⟩
theorem DS.byt {G R : Nat} {bs : List UInt8} {w W : World} (h : DS G R bs w W) : Byt G bs W := h.2.2.2.2.2.2.1.out
theorem DS.hc {G R : Nat} {bs : List UInt8} {w W : World} (h : DS G R bs w W) : HC R bs W := h.2.2.2.2.2.2.2.1.out
theorem DS.bel {G R : Nat} {bs : List UInt8} {w W : World} (h : DS G R bs w W) : Below w.heap.size w W := h.2.2.2.2.2.2.2.2.out
theorem DS.below {G R : Nat} {bs : List UInt8} {w W W' : World} (h68 : 68 ≤ bs.length) (h : DS G R bs w W) (hb : Below W.heap.size W W') : DS G R bs w W' :=
  DS.mk h68 (h.byt.below hb) (h.hc.below hb) (h.bel.trans (hb.mono h.bel.size))
theorem isZero2 (y m d : UInt8) (w : World) :
    Calls Try.prog 6 #[.agg #[.int .i64 (dY y m d), .int .i64 m.toNat, .int .i64 d.toNat]] w fun e w' => e = .returned (.bool (noDate y m d)) ∧ Below w.heap.size w w' := by
  rw [← dateV_eq]; exact isZero_any y m d w
theorem le16c {G n c : Nat} {bs : List UInt8} {W : World} (hB : Byt G bs W) (z : Int) (i j : Nat) (hz : z = i) (hj : j = i + 1) (hn : bs.length = n) (hi : i + 1 < n) (h64 : i ≤ 64) :
    Calls Try.prog 9 #[.slice (some ⟨G, 0, none⟩) n c, .int .i64 z] W fun e w' => e = .returned (.int .i64 (Lib.leNat [bt bs i, bt bs j])) ∧ ∃ q, w' = W.drewN q := by
  subst hz; subst hj
  exact le16_any G n c i _ _ W hi h64 (hB.cell i (by omega)) (hB.cell (i + 1) (by omega))
theorem le32c {G n c : Nat} {bs : List UInt8} {W : World} (hB : Byt G bs W) (hn : bs.length = n) (hi : 68 ≤ n) :
    Calls Try.prog 8 #[.slice (some ⟨G, 0, none⟩) n c, .int .i64 4] W fun e w' => e = .returned (.int .u32 (Lib.leNat [bt bs 4, bt bs 5, bt bs 6, bt bs 7])) ∧ ∃ q, w' = W.drewN q :=
  le32_any G n c 4 _ _ _ _ W (by omega) (by omega) (hB.cell 4 (by omega)) (hB.cell 5 (by omega)) (hB.cell 6 (by omega)) (hB.cell 7 (by omega))
theorem Byt.drewN {G : Nat} {bs : List UInt8} {w : World} (h : Byt G bs w) (n : Nat) : Byt G bs (w.drewN n) := ⟨h.1, h.2⟩

theorem stage4 (w3 : World) (z cells : Array Value) :
    ((w3.alloc (.cells z 29)).setRow w3.heap.size cells).heap[w3.heap.size]? = some (.cells cells 29 (0, 0)) ∧ Below w3.heap.size w3 ((w3.alloc (.cells z 29)).setRow w3.heap.size cells) :=
  ⟨setRow_heap _ _ _ _ _ _ (heap_alloc_new w3 _), below_setRow ((Below.refl _ w3).alloc (Nat.le_refl _) _) (Nat.le_refl _) _⟩

theorem noDate_cases (y m d : UInt8) : ((((y.toNat : Int) == 0) = true ∧ ((m.toNat : Int) == 0) = true ∧ ((d.toNat : Int) == 0) = true) ∧ Hid (noDate y m d = true)) ∨
      ((((y.toNat : Int) == 0) = true ∧ ((m.toNat : Int) == 0) = true ∧ ((d.toNat : Int) == 0) = false) ∧ Hid (noDate y m d = false)) ∨
      ((((y.toNat : Int) == 0) = true ∧ ((m.toNat : Int) == 0) = false) ∧ Hid (noDate y m d = false)) ∨ (((y.toNat : Int) == 0) = false ∧ Hid (noDate y m d = false)) := by
  by_cases h1 : y.toNat = 0
  · by_cases h2 : m.toNat = 0
    · by_cases h3 : d.toNat = 0
      · exact .inl ⟨⟨by rw [h1]; rfl, by rw [h2]; rfl, by rw [h3]; rfl⟩, decide_eq_true ⟨⟨h1, h2⟩, h3⟩⟩
      · exact .inr (.inl ⟨⟨by rw [h1]; rfl, by rw [h2]; rfl, by rw [beq_eq_false_iff_ne]; omega⟩, decide_eq_false (fun h => h3 h.2)⟩)
    · exact .inr (.inr (.inl ⟨⟨by rw [h1]; rfl, by rw [beq_eq_false_iff_ne]; omega⟩, decide_eq_false (fun h => h2 h.1.2)⟩))
  · exact .inr (.inr (.inr ⟨by rw [beq_eq_false_iff_ne]; omega, decide_eq_false (fun h => h1 h.1.1)⟩))
theorem own_block {w : World} {base g n : Nat} {xs : List Value} (h : w.ownsRow base 5 1 (.slice (some ⟨g, 0, none⟩) n n) n xs) : ∃ cur : Array Value, w.heap[g]? = some (.cells cur 5 (0, 0)) ∧ cur.size = n := by
  rcases h.2 with ⟨hv, _⟩ | ⟨g', cap, cur, hv, _, hg, _, _, hs, _⟩
  · cases hv
  · cases hv; exact ⟨cur, hg, by omega⟩
theorem Below.cell_of {w w' : World} {a : Addr} {v : Value} (hb : Below w.heap.size w w') (h : w.cell? a = some v) : w'.cell? a = some v := by
  rw [hb.cell (World.block_lt_of_cell? w a h)]; exact h

attribute [-go_sem] storeVar in
set_option maxHeartbeats 2000000 in
set_option maxRecDepth 100000 in
theorem law_some (x : Addr) (n cap : Nat) (bs : List UInt8) (w : World) (h68 : 68 ≤ n) (hmax : n ≤ 1048576) (hbs : bs.length = n)
    (hsrc : ∀ j v, (cellsOf bs)[j]? = some v → w.cell? (x.add j) = some v) :
    Calls Try.prog 3 #[.slice (some x) n cap] w fun e w' => e = .returned (.bool true) ∧ Below w.heap.size w w' := by
  have HS : Hid (∀ j v, (cellsOf bs)[j]? = some v → w.cell? (x.add j) = some v) := hsrc
  clear hsrc
  have hst1 : ∀ (R : Nat) (W : World), RB R W → (storeVar 29 ⟨R, 0, none⟩ (.agg (headCells bs (nm (mid bs))))).run Try.prog W = .ok () (W.setRow R (headCells bs (nm (mid bs)))) :=
    fun R W h => h.store _ rfl (by simp [headCells, Value.oneCell'])
  obtain ⟨i5, a5, a50, a51, a52⟩ := info_parts info5
  have hne : ∀ W, (binOp .neq 22 (.slice (some x) n cap) (.slice none 0 0)).run Try.prog W = .ok (.bool true) W := fun W => run_neq_slice_nil W 22 5 (some x) n cap Try.underlying22
  go_enter Try.func3, Try.ntmps3
  go_wp2_with fail
  refine (zzBytes4_any _ n cap _ hmax).mono ?_
  rintro e w0 ⟨rfl, rfl⟩
  go_wp2_with (first
    | (at_make; refine wpList_make_full _ rfl (.tmp 18) (.tmp 18) 22 rfl w0.heap.size 5 i5 _ 1 Try.underlying22 a5 a50 a51 _ _ _ _ n rfl rfl rfl rfl (by rw [a52]; omega) (by unfold maxLen; omega) (Nat.le_refl _) ?_; intro w1 hown1 hgrow1; have hb1 : Below w0.heap.size w0 w1 := (Below.refl _ _).grown hgrow1 (Nat.le_refl _) (by intro b hb; simp at hb); obtain ⟨cur, hg1, hcz⟩ := own_block hown1)
    | (refine wpList_copy_splice rfl (.tmp 20) (.tmp 21) 22 22 rfl 5 Try.underlying22 size5 _ _ _ _ _ _ rfl rfl w0.heap.size 0 cur.toList 5 (by simpa using hg1) (cellsOf bs) (by simp [cellsOf, hbs]) (fun _ => ⟨rfl, x, rfl, fun j v hj => Qxb6608875a.Below.cell_of hb1 (HS.out j v hj)⟩) (by simp [cellsOf, hbs, hcz]) (fun v hv => by simp only [cellsOf, List.mem_map] at hv; obtain ⟨b, _, rfl⟩ := hv; rfl) w0.heap.size w0 hb1 (Nat.le_refl _) ?_; intro w2 hG2 hb2))
  have hB2 : Byt w0.heap.size bs w2 := byt_of_splice hG2.out
  refine (zz5_any w0.heap.size n n bs _ hB2 hbs h68 (Nat.le_refl _) hmax).mono ?_
  rintro e w3 ⟨rfl, hb3⟩
  have hRn : RB w3.heap.size (w3.alloc (.cells #[.int .i64 0, .int .u8 0, .int .i64 0, .int .i64 0, .int .i64 0, .int .u32 0, .int .i64 0, .int .i64 0, .int .u8 0, .string ⟨#[]⟩] 29)) := ⟨_, heap_alloc_new w3 _, rfl⟩
  obtain ⟨hh4, hb4⟩ := stage4 w3 #[.int .i64 0, .int .u8 0, .int .i64 0, .int .i64 0, .int .i64 0, .int .u32 0, .int .i64 0, .int .i64 0, .int .u8 0, .string ⟨#[]⟩] (headCells bs (nm (mid bs)))
  have HB4 : Hid (Byt w0.heap.size bs _) := (hB2.below hb3).below hb4
  have HH4 : Hid (HC w3.heap.size bs _) := hh4
  have B4 : Hid (Below w0.heap.size w0 _) := (hb2.trans (hb3.mono hb2.size)).trans (hb4.mono (by have := hb2.size; have := hb3.size; omega))
  have g1 := HB4.out.cell 1 (by omega)
  have g2 := HB4.out.cell 2 (by omega)
  have g3 := HB4.out.cell 3 (by omega)
  have e2 := HH4.out.c2
  have e3 := HH4.out.c3
  have e4 := HH4.out.c4
  have n1 : (1 : Int) < (n : Int) := by omega
  have n2 : (2 : Int) < (n : Int) := by omega
  have n3 : (3 : Int) < (n : Int) := by omega
  clear hb1 hb2 hb3 hb4 hh4 hB2 hG2 hown1 hgrow1 HS hne hg1 hcz
  have hcase : (((((bt bs 1).toNat : Int) == 0) = true ∧ (((bt bs 2).toNat : Int) == 0) = true ∧ (((bt bs 3).toNat : Int) == 0) = true) ∧ Hid (noDate (bt bs 1) (bt bs 2) (bt bs 3) = true)) ∨
      (((((bt bs 1).toNat : Int) == 0) = true ∧ (((bt bs 2).toNat : Int) == 0) = true ∧ (((bt bs 3).toNat : Int) == 0) = false) ∧ Hid (noDate (bt bs 1) (bt bs 2) (bt bs 3) = false)) ∨
      (((((bt bs 1).toNat : Int) == 0) = true ∧ (((bt bs 2).toNat : Int) == 0) = false) ∧ Hid (noDate (bt bs 1) (bt bs 2) (bt bs 3) = false)) ∨
      (((((bt bs 1).toNat : Int) == 0) = false) ∧ Hid (noDate (bt bs 1) (bt bs 2) (bt bs 3) = false)) := noDate_cases _ _ _
  rcases hcase with ⟨⟨fy, fm, fd⟩, HND⟩ | ⟨⟨fy, fm, fd⟩, HND⟩ | ⟨⟨fy, fm⟩, HND⟩ | ⟨fy, HND⟩
  all_goals
    go_wp2_with fail
    refine (isZero2 _ _ _ _).mono ?_
    rintro e w5 ⟨rfl, hb5⟩
    rw [HND.out]
    have HB5 : Hid (Byt w0.heap.size bs w5) := HB4.out.below hb5
    have HH5 : Hid (HC w3.heap.size bs w5) := HH4.out.below hb5
    have B5 : Hid (Below w0.heap.size w0 w5) := B4.out.trans (hb5.mono B4.out.size)
    have HDS : Hid (DS w0.heap.size w3.heap.size bs w0 w5.drew) := DS.mk (by omega) ⟨HB5.out.1, HB5.out.2⟩ HH5.out B5.out.drew
    clear hb5 HB4 HH4 B4 g1 g2 g3 e2 e3 e4 fy HND hRn
    go_wp2_with fail
    go_region_held3 (fun W => W.cell? ⟨w3.heap.size, 2, none⟩ = some (.int .i64 (dY (bt bs 1) (bt bs 2) (bt bs 3))) ∧ W.cell? ⟨w3.heap.size, 3, none⟩ = some (.int .i64 (bt bs 2).toNat) ∧ W.cell? ⟨w3.heap.size, 4, none⟩ = some (.int .i64 (bt bs 3).toNat) ∧
        W.cell? ⟨w0.heap.size, 1, none⟩ = some (.int .u8 (bt bs 1).toNat) ∧ W.cell? ⟨w0.heap.size, 2, none⟩ = some (.int .u8 (bt bs 2).toNat) ∧ W.cell? ⟨w0.heap.size, 3, none⟩ = some (.int .u8 (bt bs 3).toNat) ∧
        Hid (Byt w0.heap.size bs W) ∧ Hid (HC w3.heap.size bs W) ∧ Hid (Below w0.heap.size w0 W))
      (first
        | exact HDS.out
        | exact DS.below (by omega) (by assumption) hb)
      (first
        | (go_at_call 7; refine (modelDate_any (bt bs 1) (bt bs 2) (bt bs 3) _).mono ?_; rintro e w' ⟨rfl, hb⟩; rw [dateV_eq]))
    have hds : DS w0.heap.size w3.heap.size bs w0 _ := (by assumption)
    have HB7 : Hid (Byt w0.heap.size bs _) := hds.byt
    have HH7 : Hid (HC w3.heap.size bs _) := hds.hc
    have B7 : Hid (Below w0.heap.size w0 _) := hds.bel
    clear hds HDS HB5 HH5 B5 hb
    have c0 := HH7.out.c0
    have c1 := HH7.out.c1
    have c5 := HH7.out.c5
    have c6 := HH7.out.c6
    have c7 := HH7.out.c7
    have c8 := HH7.out.c8
    have c9 := HH7.out.c9
    have g0 := HB7.out.cell 0 (by omega)
    have g29 := HB7.out.cell 29 (by omega)
    have n0 : 0 < n := by omega
    have n29 : (29 : Int) < (n : Int) := by omega
    go_wp2_with fail
    go_quiet (first
      | (go_at_call 8; refine Calls.quiet_of (le32c (HB7.out.drewN _) hbs h68))
      | (go_at_call 9; first
          | exact Calls.quiet_of (le16c (HB7.out.drewN _) _ 8 9 (by decide) rfl hbs (by omega) (by omega))
          | exact Calls.quiet_of (le16c (HB7.out.drewN _) _ 10 11 (by decide) rfl hbs (by omega) (by omega)))
      | (go_at_call 10; refine Calls.quiet_of (name_any _ n n bs _ (HB7.out.drewN _) hbs h68 (Nat.le_refl _) hmax)))
    go_wp2
    go_ret
    exact ⟨by simp, below_drewN B7.out _⟩
end Go.Proofs.Qxb6608875a
