/-
  THE WALK of zzPieces: the pieces' texts and marks as two slices of the call's own.
-/
import Derived.Test.Qxb6608706aFmtRend
namespace Go.Proofs.Qxb6608706aFmt
open Go.RowKit

theorem Tryf.info9 : (Tryf.prog.info? 9).map (fun i => (i.zero, i.size, i.bytes)) = some (some (.string ⟨#[]⟩), 1, 16) := by kernel_rfl
theorem Tryf.info4 : (Tryf.prog.info? 4).map (fun i => (i.zero, i.size, i.bytes)) = some (some (.bool false), 1, 1) := by kernel_rfl

set_option maxHeartbeats 400000 in
theorem tokText_any (tx : ByteArray) (fl : Bool) (w : World) :
    Calls Tryf.prog 15 #[.agg #[.string tx, .bool fl]] w fun e w' => e = .returned (.string tx) ∧ Below w.heap.size w w' := by
  go_enter Tryf.func15, Tryf.ntmps15
  go_wp2
  go_ret
  exact ⟨rfl, (Below.refl _ _).alloc (Nat.le_refl _) _⟩

set_option maxHeartbeats 400000 in
theorem tokField_any (tx : ByteArray) (fl : Bool) (w : World) :
    Calls Tryf.prog 16 #[.agg #[.string tx, .bool fl]] w fun e w' => e = .returned (.bool fl) ∧ Below w.heap.size w w' := by
  go_enter Tryf.func16, Tryf.ntmps16
  go_wp2
  go_ret
  exact ⟨rfl, (Below.refl _ _).alloc (Nat.le_refl _) _⟩

theorem tokCells_at (T : List Tp.Tok) (k : Nat) (h : k < T.length) : (tokCells T)[k * 2]? = some (.string ⟨(T[k].1).toArray⟩) ∧ (tokCells T)[k * 2 + 1]? = some (.bool T[k].2) := by
  induction T generalizing k with
  | nil => simp at h
  | cons t T ih =>
    have e : tokCells (t :: T) = .string ⟨(t.1).toArray⟩ :: .bool t.2 :: tokCells T := by simp [tokCells, tokCell]
    rw [e]
    cases k with
    | zero => simp
    | succ k =>
      have := ih k (by simpa using h)
      rw [show (k + 1) * 2 = k * 2 + 1 + 1 from by omega]
      simpa using this

/-- An owned row behind what keeps its block. -/
theorem row_block {w w' : World} {base : Nat} {e : TypeId} {size : Nat} {v : Value} {n : Nat} {xs : List Value} (h : w.ownsRow base e size v n xs)
    (hk : ∀ g, v.ownBlock = some g → w'.heap[g]? = w.heap[g]?) : w'.ownsRow base e size v n xs := by
  refine ⟨h.1, ?_⟩
  rcases h.2 with hn | ⟨g, cap, cur, rfl, hbg, hg, rest⟩
  · exact .inl hn
  · exact .inr ⟨g, cap, cur, rfl, hbg, (hk g rfl).trans hg, rest⟩

/-- A row that one call of its own has made: its values up to k are told. -/
def RowUp (base : Nat) (e : TypeId) (G n : Nat) (val : Nat → Value) (k : Nat) (W : World) : Prop :=
  ∃ xs, W.ownsRow base e 1 (.slice (some ⟨G, 0, none⟩) n n) n xs ∧ ∀ j, j < n → j < k → xs[j]? = some (val j)

theorem RowUp.below {base : Nat} {e : TypeId} {G n : Nat} {val : Nat → Value} {k : Nat} {W W' : World} (h : RowUp base e G n val k W) (hb : Below W.heap.size W W') : RowUp base e G n val k W' := by
  obtain ⟨xs, hown, hx⟩ := h
  exact ⟨xs, row_block hown (fun g hg => hb.block g (hown.lt g hg).2), hx⟩

theorem RowUp.far {base : Nat} {e : TypeId} {G n : Nat} {val : Nat → Value} {k : Nat} {W : World} (h : RowUp base e G n val k W) {a : Addr} (ha : a.block ≠ G) (u : Value) : RowUp base e G n val k (W.setCell a u) := by
  obtain ⟨xs, hown, hx⟩ := h
  exact ⟨xs, row_block hown (fun g hg => by simp [Value.ownBlock] at hg; subst hg; exact Below.heap_setCell _ _ _ _ (Ne.symm ha)), hx⟩

theorem RowUp.cell {base : Nat} {e : TypeId} {G n : Nat} {val : Nat → Value} {k : Nat} {W : World} (h : RowUp base e G n val k W) (j : Nat) (hj : j < n) : ∃ u, W.cell? ⟨G, j, none⟩ = some u := by
  obtain ⟨xs, hown, _⟩ := h
  refine ⟨xs[j]'(by have := hown.1; omega), ?_⟩
  rw [hown.cellAt j (by omega), List.getElem?_eq_getElem]

theorem RowUp.frozen {base : Nat} {e : TypeId} {G n : Nat} {val : Nat → Value} {k : Nat} {W : World} (h : RowUp base e G n val k W) (j : Nat) : W.frozen? ⟨G, j, none⟩ = false := by
  obtain ⟨xs, hown, _⟩ := h; exact hown.frozenAt j

theorem RowUp.set {base : Nat} {e : TypeId} {G n : Nat} {val : Nat → Value} {k : Nat} {W : World} (h : RowUp base e G n val k W) (hk : k < n) : RowUp base e G n val (k + 1) (W.setCell ⟨G, k, none⟩ (val k)) := by
  obtain ⟨xs, hown, hx⟩ := h
  refine ⟨xs.set k (val k), (hown.stored k (val k)).1, fun j hj hjk => ?_⟩
  by_cases e1 : j = k
  · subst e1; rw [List.getElem?_set_self (by have := hown.1; omega)]
  · rw [List.getElem?_set_ne (Ne.symm e1)]; exact hx j hj (by omega)

theorem RowUp.block {base : Nat} {e : TypeId} {G n : Nat} {val : Nat → Value} {k : Nat} {W : World} (h : RowUp base e G n val k W) : ∃ cur, W.heap[G]? = some (.cells cur e (0, 0)) := by
  obtain ⟨xs, hown, _⟩ := h
  rcases hown.2 with ⟨hv, _⟩ | ⟨g, cap, cur, hv, _, hg, _⟩
  · cases hv
  · cases hv; exact ⟨cur, hg⟩

theorem RowUp.ne {base : Nat} {e1 e2 : TypeId} {G1 G2 n : Nat} {v1 v2 : Nat → Value} {k1 k2 : Nat} {W : World} (h1 : RowUp base e1 G1 n v1 k1 W) (h2 : RowUp base e2 G2 n v2 k2 W) (he : e1 ≠ e2) : G1 ≠ G2 := by
  intro e
  obtain ⟨c1, b1⟩ := h1.block
  obtain ⟨c2, b2⟩ := h2.block
  rw [e, b2] at b1
  cases b1
  exact he rfl

def txt (T : List Tp.Tok) (j : Nat) : Value := .string ⟨((T.getD j ([], false)).1).toArray⟩
def mrk (T : List Tp.Tok) (j : Nat) : Value := .bool (T.getD j ([], false)).2

theorem getD_at (T : List Tp.Tok) (j : Nat) (h : j < T.length) : T.getD j ([], false) = T[j] := by simp [List.getD, h]

theorem RowUp.strs {base G : Nat} {T : List Tp.Tok} {W : World} (h : RowUp base 9 G T.length (txt T) T.length W) : Strs G T W := by
  obtain ⟨xs, hown, hx⟩ := h
  refine ⟨(hown.lt G rfl).2, fun j hj => ?_⟩
  rw [hown.cellAt j (by omega), hx j hj hj, txt, getD_at T j hj]
theorem RowUp.bools {base G : Nat} {T : List Tp.Tok} {W : World} (h : RowUp base 4 G T.length (mrk T) T.length W) : Bools G T W := by
  obtain ⟨xs, hown, hx⟩ := h
  refine ⟨(hown.lt G rfl).2, fun j hj => ?_⟩
  rw [hown.cellAt j (by omega), hx j hj hj, mrk, getD_at T j hj]

structure PcRel (T : List Tp.Tok) (w : World) (G1 G2 : Nat) (k1 k2 : Nat) (W : World) : Prop where
  s : RowUp w.heap.size 9 G1 T.length (txt T) k1 W
  b : RowUp w.heap.size 4 G2 T.length (mrk T) k2 W
  bel : Below w.heap.size w W

theorem PcRel.below {T : List Tp.Tok} {w : World} {G1 G2 k1 k2 : Nat} {W W' : World} (h : PcRel T w G1 G2 k1 k2 W) (hb : Below W.heap.size W W') : PcRel T w G1 G2 k1 k2 W' :=
  ⟨h.s.below hb, h.b.below hb, h.bel.trans (hb.mono h.bel.size)⟩
theorem PcRel.g1 {T : List Tp.Tok} {w : World} {G1 G2 k1 k2 : Nat} {W : World} (h : PcRel T w G1 G2 k1 k2 W) : w.heap.size ≤ G1 := by
  obtain ⟨xs, hown, _⟩ := h.s; exact (hown.lt G1 rfl).1
theorem PcRel.g2 {T : List Tp.Tok} {w : World} {G1 G2 k1 k2 : Nat} {W : World} (h : PcRel T w G1 G2 k1 k2 W) : w.heap.size ≤ G2 := by
  obtain ⟨xs, hown, _⟩ := h.b; exact (hown.lt G2 rfl).1
theorem PcRel.setS {T : List Tp.Tok} {w : World} {G1 G2 k k2 : Nat} {W : World} (h : PcRel T w G1 G2 k k2 W) (hk : k < T.length) : PcRel T w G1 G2 (k + 1) k2 (W.setCell ⟨G1, k, none⟩ (txt T k)) :=
  ⟨h.s.set hk, h.b.far (h.s.ne h.b (by decide)) _, h.bel.setCell (p := ⟨G1, k, none⟩) h.g1 _⟩
theorem PcRel.setB {T : List Tp.Tok} {w : World} {G1 G2 k k1 : Nat} {W : World} (h : PcRel T w G1 G2 k1 k W) (hk : k < T.length) : PcRel T w G1 G2 k1 (k + 1) (W.setCell ⟨G2, k, none⟩ (mrk T k)) :=
  ⟨h.s.far (Ne.symm (h.s.ne h.b (by decide))) _, h.b.set hk, h.bel.setCell (p := ⟨G2, k, none⟩) h.g2 _⟩

/-- What zzPieces hands back. -/
def PiecesPost (T : List Tp.Tok) (w : World) (e : Ending) (w' : World) : Prop :=
  ∃ g1 g2, e = .returned (.tuple #[.slice (some ⟨g1, 0, none⟩) T.length T.length, .slice (some ⟨g2, 0, none⟩) T.length T.length]) ∧ Strs g1 T w' ∧ Bools g2 T w' ∧ Below w.heap.size w w'

set_option maxHeartbeats 1000000 in
set_option maxRecDepth 100000 in
theorem pieces_some (T : List Tp.Tok) (g cap base : Nat) (w : World) (hown : w.ownsRow base 38 2 (.slice (some ⟨g, 0, none⟩) T.length cap) T.length (tokCells T)) (hT : T.length ≤ 16777216) :
    Calls Tryf.prog 8 #[.slice (some ⟨g, 0, none⟩) T.length cap] w fun e w' => PiecesPost T w e w' := by
  obtain ⟨i9, a9, a90, a91, a92⟩ := info_parts Tryf.info9
  obtain ⟨i4, a4, a40, a41, a42⟩ := info_parts Tryf.info4
  have hcap : T.length ≤ cap := by
    rcases hown.2 with ⟨hv, _⟩ | ⟨g', cap', cur, hv, _, _, hn, _⟩
    · cases hv
    · cases hv; exact hn
  have HC : Hid (∀ W, Below w.heap.size w W → ∀ k (h : k < T.length), W.cell? ⟨g, k * 2, none⟩ = some (txt T k) ∧ W.cell? ⟨g, k * 2 + 1, none⟩ = some (mrk T k)) := by
    intro W hW k h
    have hg := (hown.lt g rfl).2
    have ht := tokCells_at T k h
    rw [txt, mrk, getD_at T k h]
    exact ⟨(hW.cell (p := ⟨g, k * 2, none⟩) hg).trans ((hown.cellAt (k * 2) (by omega)).trans ht.1), (hW.cell (p := ⟨g, k * 2 + 1, none⟩) hg).trans ((hown.cellAt (k * 2 + 1) (by omega)).trans ht.2)⟩
  clear hown
  go_enter Tryf.func8, Tryf.ntmps8
  go_wp2_with (first
    | (at_make; refine wpList_make_full _ rfl (.tmp 8) (.tmp 8) 28 rfl w.heap.size 9 i9 _ 1 Tryf.underlying28 a9 a90 a91 _ _ _ _ T.length rfl rfl rfl rfl (by rw [a92]; omega) (by unfold maxLen; omega) (Nat.le_refl _) ?_; intro w1 hown1 hgrow1)
    | (at_make; refine wpList_make_full _ rfl (.tmp 11) (.tmp 11) 29 rfl w.heap.size 4 i4 _ 1 Tryf.underlying29 a4 a40 a41 _ _ _ _ T.length rfl rfl rfl rfl (by rw [a42]; omega) (by unfold maxLen; omega) hgrow1.size ?_; intro w2 hown2 hgrow2))
  have hst : PcRel T w w.heap.size w1.heap.size 0 0 w2 := by
    have b1 : Below w.heap.size w w1 := (Below.refl _ _).grown hgrow1 (Nat.le_refl _) (by intro b hb; simp at hb)
    have b2 : Below w.heap.size w w2 := b1.grown hgrow2 b1.size (by intro b hb; simp at hb)
    refine ⟨⟨_, row_block hown1 (fun gg hg => ?_), fun j _ h => by omega⟩, ⟨_, hown2, fun j _ h => by omega⟩, b2⟩
    exact hgrow2.block gg (hown1.lt gg hg).2 (by simp)
  clear hown1 hown2 hgrow1 hgrow2
  have HST : Hid (PcRel T w w.heap.size w1.heap.size 0 0 w2) := hst
  clear hst
  generalize w1.heap.size = G2 at *
  go_loopw [6] (fun i wr => ∃ k : Nat, k ≤ T.length ∧ i = .int .i64 k ∧ PcRel T w w.heap.size G2 k k wr) (fun i _ => T.length - (intOf i).toNat)
  case atStart => exact ⟨0, Nat.zero_le _, rfl, HST.out⟩
  case round =>
    clear HST
    obtain ⟨k, hk, rfl, hp⟩ := hrel
    have HP : Hid (PcRel T w w.heap.size G2 k k wr) := hp
    clear hp
    by_cases hlt : k < T.length
    · obtain ⟨tx, htx⟩ : ∃ tx : ByteArray, txt T k = .string tx := ⟨_, rfl⟩
      obtain ⟨fl, hfl⟩ : ∃ fl : Bool, mrk T k = .bool fl := ⟨_, rfl⟩
      have HTX : Hid (txt T k = .string tx) := htx
      have HFL : Hid (mrk T k = .bool fl) := hfl
      have HK : Hid (∀ W, Below w.heap.size w W → W.cell? ⟨g, k * 2, none⟩ = some (.string tx) ∧ W.cell? ⟨g, k * 2 + 1, none⟩ = some (.bool fl)) := by
        intro W hW; have := HC.out W hW k hlt; rw [htx, hfl] at this; exact this
      clear htx hfl
      obtain ⟨c1, c2⟩ := HK.out wr HP.out.bel
      go_wp2_with fail
      refine (tokText_any tx fl _).mono ?_
      rintro e W1 ⟨rfl, b1⟩
      have HP1 : Hid (PcRel T w w.heap.size G2 k k W1) := HP.out.below b1
      have HP2 : Hid (PcRel T w w.heap.size G2 (k + 1) k (W1.setCell ⟨w.heap.size, k, none⟩ (.string tx))) := by
        have := HP1.out.setS hlt; rw [HTX.out] at this; exact this
      obtain ⟨u1, d1⟩ := HP1.out.s.cell k hlt
      have d2 := HP1.out.s.frozen k
      obtain ⟨c3, c4⟩ := HK.out _ HP2.out.bel
      clear b1 c1 c2 HP HP1
      go_wp2_with fail
      refine (tokField_any tx fl _).mono ?_
      rintro e W3 ⟨rfl, b3⟩
      have HP3 : Hid (PcRel T w w.heap.size G2 (k + 1) k W3) := HP2.out.below b3
      have HP4 : Hid (PcRel T w w.heap.size G2 (k + 1) (k + 1) (W3.setCell ⟨G2, k, none⟩ (.bool fl))) := by
        have := HP3.out.setB hlt; rw [HFL.out] at this; exact this
      obtain ⟨u3, d3⟩ := HP3.out.b.cell k hlt
      have d4 := HP3.out.b.frozen k
      clear b3 c3 c4 d1 d2 HP2 HP3
      go_wp2
      go_roundw
      case rel => exact ⟨k + 1, hlt, by go_num, HP4.out⟩
      case measure => simp [intOf]; omega
    · obtain rfl : k = T.length := by omega
      have HF : Hid (PiecesPost T w (.returned (.tuple #[.slice (some ⟨w.heap.size, 0, none⟩) T.length T.length, .slice (some ⟨G2, 0, none⟩) T.length T.length])) wr) :=
        ⟨_, _, rfl, HP.out.s.strs, HP.out.b.bools, HP.out.bel⟩
      clear HP
      go_wp2
      go_ret2
      exact HF.out

set_option maxHeartbeats 400000 in
set_option maxRecDepth 100000 in
theorem pieces_nil (w : World) :
    Calls Tryf.prog 8 #[.slice none 0 0] w fun e w' => PiecesPost [] w e w' := by
  obtain ⟨i9, a9, a90, a91, a92⟩ := info_parts Tryf.info9
  obtain ⟨i4, a4, a40, a41, a42⟩ := info_parts Tryf.info4
  go_enter Tryf.func8, Tryf.ntmps8
  go_wp2_with (first
    | (at_make; refine wpList_make_full _ rfl (.tmp 8) (.tmp 8) 28 rfl w.heap.size 9 i9 _ 1 Tryf.underlying28 a9 a90 a91 _ _ _ _ 0 rfl rfl rfl rfl (by omega) (by unfold maxLen; omega) (Nat.le_refl _) ?_; intro w1 hown1 hgrow1)
    | (at_make; refine wpList_make_full _ rfl (.tmp 11) (.tmp 11) 29 rfl w.heap.size 4 i4 _ 1 Tryf.underlying29 a4 a40 a41 _ _ _ _ 0 rfl rfl rfl rfl (by omega) (by unfold maxLen; omega) hgrow1.size ?_; intro w2 hown2 hgrow2))
  have b1 : Below w.heap.size w w1 := (Below.refl _ _).grown hgrow1 (Nat.le_refl _) (by intro b hb; simp at hb)
  have b2 : Below w.heap.size w w2 := b1.grown hgrow2 b1.size (by intro b hb; simp at hb)
  have l1 : w.heap.size < w1.heap.size := (hown1.lt _ rfl).2
  have l2 : w1.heap.size < w2.heap.size := (hown2.lt _ rfl).2
  have hsz2 := hgrow2.size
  have HF : Hid (PiecesPost [] w (.returned (.tuple #[.slice (some ⟨w.heap.size, 0, none⟩) 0 0, .slice (some ⟨w1.heap.size, 0, none⟩) 0 0])) w2) :=
    ⟨_, _, rfl, ⟨by omega, fun j h => by simp at h⟩, ⟨l2, fun j h => by simp at h⟩, b2⟩
  clear b1 b2 l1 l2 hown1 hown2 hgrow1 hgrow2 hsz2
  refine wp_loop_rounds 1 ?_
  rw [rounds_succ]
  go_wp2
  go_ret2
  exact HF.out

/-- zzPieces of pieces that a call owns. -/
theorem pieces_any (T : List Tp.Tok) (v : Value) (base : Nat) (w : World) (hown : w.ownsRow base 38 2 v T.length (tokCells T)) (hT : T.length ≤ 16777216) :
    Calls Tryf.prog 8 #[v] w fun e w' => PiecesPost T w e w' := by
  rcases hown.2 with ⟨rfl, hn⟩ | ⟨g, cap, cur, rfl, _⟩
  · obtain rfl : T = [] := List.length_eq_zero_iff.1 hn
    exact pieces_nil w
  · exact pieces_some T g cap base w hown hT
end Go.Proofs.Qxb6608706aFmt
