/-
  THE CLOSURE of Lines: its head (the row made, the code points laid), then its loop.
-/
import Derived.Test.Qxb6608979aMem
namespace Go.Proofs.Qxb6608979a
open Go.RowKit

theorem info27 : (Try.prog.info? 27).map (fun i => (i.zero, i.size, i.bytes)) = some (some (.slice none 0 0), 1, 24) := by kernel_rfl

/-- What stands through the head's region. -/
def HS (B V : Nat) (s : ByteArray) (w W : World) : Prop :=
  W.cell? ⟨V, 0, none⟩ = some (.pointer (some ⟨B, 0, none⟩)) ∧ W.cell? ⟨B, 3, none⟩ = some (.string s) ∧ TB B W ∧ Hid (∃ vs, Txt B (.string s) vs 0 1 W) ∧ Hid (Below B w W)

theorem HS.below {B V : Nat} {s : ByteArray} {w W W' : World} (h : HS B V s w W) (hb : Below W.heap.size W W') : HS B V s w W' := by
  obtain ⟨h1, h2, _, h4, h5⟩ := h
  obtain ⟨vs, ht⟩ := h4.out
  have hlt := ht.lt
  have ht' : Txt B (.string s) vs 0 1 W' := ht.block (hb.block B hlt)
  exact ⟨by rw [hb.cell (World.block_lt_of_cell? W _ h1)]; exact h1, ht'.c3, ht'.tb, ⟨vs, ht'⟩, h5.out.trans (hb.mono (Nat.le_of_lt hlt))⟩
theorem HS.set4 {B V : Nat} {s : ByteArray} {w W : World} (hV : V ≠ B) (v : Value) (h : HS B V s w W) : HS B V s w (W.setCell ⟨B, 4, none⟩ v) := by
  obtain ⟨h1, h2, _, h4, h5⟩ := h
  obtain ⟨vs, ht⟩ := h4.out
  have ht' := ht.set4 v
  exact ⟨by rw [World.cell?_setCell_far _ _ _ _ (by simpa using hV.symm)]; exact h1, ht'.c3, ht'.tb, ⟨v, ht'⟩, h5.out.setCell (p := ⟨B, 4, none⟩) (Nat.le_refl _) v⟩

set_option maxHeartbeats 4000000 in
set_option maxRecDepth 100000 in
theorem closure_any (B V : Nat) (s : ByteArray) (w : World) (hT : Txt B (.string s) (.slice none 0 0) 0 1 w) (hV : w.cell? ⟨V, 0, none⟩ = some (.pointer (some ⟨B, 0, none⟩))) (hVB : V ≠ B) (hs : s.size ≤ 1048576) :
    Calls Try.prog 12 #[.pointer (some ⟨V, 0, none⟩)] w fun e w' => e = .returned (.tuple #[]) ∧ CloPost w B V s w' := by
  obtain ⟨i0, hi, hz0, hz1, hz2⟩ := info_parts info27
  have hcl := cnt_le s
  have hmk : ∀ W : World, ∃ w', (Instr.makeSlice 25 (.int .i64 0) (.int .i64 ((cnt s + 1 : Nat) : Int))).run Try.prog W = .ok (.slice (some ⟨W.heap.size, 0, none⟩) 0 (cnt s + 1)) w' ∧
      w'.ownsRow W.heap.size 27 1 (.slice (some ⟨W.heap.size, 0, none⟩) 0 (cnt s + 1)) 0 [] ∧ W.grownBy w' none := fun W =>
    run_make_own (P := Try.prog) W W.heap.size 25 27 i0 _ 1 Try.underlying25 hi hz0 hz1 .i64 .i64 (cnt s + 1) (by rw [hz2]; omega) (by unfold maxLen; omega) (Nat.le_refl _)
  obtain ⟨mk, hmk⟩ := Classical.axiomOfChoice hmk
  have hm1 : ∀ W : World, (Instr.makeSlice 25 (.int .i64 0) (.int .i64 ((cnt s : Int) + 1))).run Try.prog W = .ok (.slice (some ⟨W.heap.size, 0, none⟩) 0 (cnt s + 1)) (mk W) := fun W => (hmk W).1
  have HM : Hid (∀ W : World, (mk W).ownsRow W.heap.size 27 1 (.slice (some ⟨W.heap.size, 0, none⟩) 0 (cnt s + 1)) 0 [] ∧ W.grownBy (mk W) none) := fun W => (hmk W).2
  have HMB : Hid (∀ W : World, Below W.heap.size W (mk W)) := fun W => (Below.refl _ _).grown (HM.out W).2 (Nat.le_refl _) (by intro b hb; simp at hb)
  clear hmk
  have kw : IntKind.i64.wrap ((cnt s : Int) + 1) = (cnt s : Int) + 1 := by rw [IntKind.wrap_i64]; omega
  have h4 : ∀ W, TB B W → W.cell? ⟨B, 4, none⟩ = some (rc B 4 W) := fun W h => h.cell 4 (by omega)
  have hf : ∀ W k, TB B W → W.frozen? ⟨B, k, none⟩ = false := fun W k h => h.frozen k
  have hBlt := hT.lt
  have hVlt : V < w.heap.size := World.block_lt_of_cell? w _ hV
  have HT : Hid (Txt B (.string s) (.slice none 0 0) 0 1 w) := hT
  have HV : Hid (w.cell? ⟨V, 0, none⟩ = some (.pointer (some ⟨B, 0, none⟩))) := hV
  have HH : Hid (HS B V s w w.drew) := ⟨hV, hT.c3, hT.tb, ⟨_, hT⟩, Below.drew (Below.refl _ _)⟩
  clear hT hV
  go_enter Try.func12, Try.ntmps12
  go_wp2_with fail
  go_region_held3 (fun W => W.cell? ⟨V, 0, none⟩ = some (.pointer (some ⟨B, 0, none⟩)) ∧ W.cell? ⟨B, 3, none⟩ = some (.string s) ∧ TB B W ∧ Hid (∃ vs, Txt B (.string s) vs 0 1 W) ∧ Hid (Below B w W))
    (first
      | exact HH.out
      | assumption
      | exact HS.below (by assumption) (HMB.out _)
      | exact HS.set4 hVB _ (by assumption))
    (first
      | (go_at_call 13; refine (count_any s _).mono ?_; rintro e w' ⟨rfl, rfl⟩))
  have hmb := HMB.out w.drew
  have hT0 : Txt B (.string s) (.slice none 0 0) 0 1 (mk w.drew) := HT.out.block (hmb.block B hBlt)
  have HR1 : Hid (((mk w.drew).setCell ⟨B, 4, none⟩ (.slice (some ⟨w.heap.size, 0, none⟩) 0 (cnt s + 1))).ownsRow w.heap.size 27 1 (.slice (some ⟨w.heap.size, 0, none⟩) 0 (cnt s + 1)) 0 []) := by
    have hown := (HM.out w.drew).1
    refine ⟨hown.1, ?_⟩
    rcases hown.2 with hn | ⟨g, cap, cur, e1, e2, e3, e4⟩
    · exact .inl hn
    · exact .inr ⟨g, cap, cur, e1, e2, by rw [Below.heap_setCell _ _ _ _ (by have : w.heap.size ≤ g := e2; simp; omega)]; exact e3, e4⟩
  have HT1 : Hid (Txt B (.string s) (.slice (some ⟨w.heap.size, 0, none⟩) 0 (cnt s + 1)) 0 1 ((mk w.drew).setCell ⟨B, 4, none⟩ (.slice (some ⟨w.heap.size, 0, none⟩) 0 (cnt s + 1)))) := hT0.set4 _
  have HS1 : HS B V s w ((mk w.drew).setCell ⟨B, 4, none⟩ (.slice (some ⟨w.heap.size, 0, none⟩) 0 (cnt s + 1))) := (by assumption)
  have HV1 : Hid (((mk w.drew).setCell ⟨B, 4, none⟩ (.slice (some ⟨w.heap.size, 0, none⟩) 0 (cnt s + 1))).cell? ⟨V, 0, none⟩ = some (.pointer (some ⟨B, 0, none⟩))) := HS1.1
  have HB1 : Hid (Below B w ((mk w.drew).setCell ⟨B, 4, none⟩ (.slice (some ⟨w.heap.size, 0, none⟩) 0 (cnt s + 1)))) := HS1.2.2.2.2
  have hsz1 : w.heap.size ≤ ((mk w.drew).setCell ⟨B, 4, none⟩ (.slice (some ⟨w.heap.size, 0, none⟩) 0 (cnt s + 1))).heap.size := HB1.out.size
  rename_i hheld
  clear hheld HS1 hT0 hmb hm1 HM HMB HT HV HH h4 hf
  generalize ((mk w.drew).setCell ⟨B, 4, none⟩ (.slice (some ⟨w.heap.size, 0, none⟩) 0 (cnt s + 1))) = W1 at *
  obtain ⟨c, hc, hcv⟩ := conv_any s (by omega) W1
  have hst := start_mem hBlt hVB HT1.out HV1.out HR1.out HB1.out hsz1 c
  have g1 : W1.cell? ⟨V, 0, none⟩ = some (.pointer (some ⟨B, 0, none⟩)) := HV1.out
  have g2 : W1.cell? ⟨B, 3, none⟩ = some (.string s) := HT1.out.c3
  have g3 : (W1.alloc (.cells (runeRow s c) 21)).cell? ⟨V, 0, none⟩ = some (.pointer (some ⟨B, 0, none⟩)) := hst.1
  have g4 : (W1.alloc (.cells (runeRow s c) 21)).cell? ⟨B, 3, none⟩ = some (.string s) := hst.2.1
  have g5 : (W1.alloc (.cells (runeRow s c) 21)).frozen? ⟨B, 3, none⟩ = false := hst.2.2.1
  have HCM : Hid (CM w B V w.heap.size W1.heap.size (runeRow s c) (.string ⟨#[]⟩) (.slice (some ⟨w.heap.size, 0, none⟩) 0 (cnt s + 1)) [] 0 ((W1.alloc (.cells (runeRow s c) 21)).setCell ⟨B, 3, none⟩ (.string ⟨#[]⟩)).drew) := hst.2.2.2
  clear hst HT1 HV1 HR1 HB1
  have hrl := rn_len s
  go_wp2_with fail
  clear g1 g2 g3 g4 g5 hcv
  generalize ((W1.alloc (.cells (runeRow s c) 21)).setCell ⟨B, 3, none⟩ (.string ⟨#[]⟩)).drew = W3 at *
  go_loopw [1, 2] (fun ch _ wr => LR w B V W1.heap.size s c ch wr) (fun ch _ _ => lenOf ch)
  case atStart => exact ⟨0, 0, c, _, [], [], Nat.zero_le _, rfl, by simpa using hc, fun _ => rfl, HCM.out, fun j h => absurd h (by simp), rfl⟩
  case round =>
    obtain ⟨p, o, cc, vs, xs, acc, hp, rfl, hcc, hop, hcm, hvl, hac⟩ := hrel
    clear HCM
    have hal : acc.length + (lns ((rn s).drop p)).length = (lns (rn s)).length := by rw [← hac]; simp
    have hl1 := lns_len ((rn s).drop p)
    have hl2 := lns_len (rn s)
    have hl3 := List.count_le_length (a := (10 : Int)) (l := rn s)
    have hdl : ((rn s).drop p).length = (rn s).length - p := by simp
    have HRU : Hid (Runes wr (some ⟨W1.heap.size, o, none⟩) ((rn s).drop p)) := runes_of hcm.rune hop
    have HSG : Hid (∀ k, Seg W1.heap.size (rn s) (some ⟨W1.heap.size, o, none⟩) (((rn s).drop p).take k)) := fun k => seg_take hop k
    have HLP : Hid (lns ((rn s).drop p) = if pos ((rn s).drop p) < ((rn s).drop p).length then cr (((rn s).drop p).take (pos ((rn s).drop p))) :: lns (((rn s).drop p).drop (pos ((rn s).drop p) + 1)) else [cr ((rn s).drop p)]) := lns_pos _
    have HAC : Hid (acc ++ lns ((rn s).drop p) = lns (rn s)) := hac
    have HVL : Hid (Vals W1.heap.size (rn s) xs acc) := hvl
    have HCM : Hid (CM w B V w.heap.size W1.heap.size (runeRow s c) (.string ⟨#[]⟩) vs xs acc.length wr) := hcm
    have hbs := hcm.big
    have hV1 := hcm.var
    have h41 := hcm.txt.c4
    have hf1 := hcm.txt.tb.frozen 4
    have hac2 : acc.length ≤ (rn s).length := by omega
    clear hac hvl hcm hl1 hl2 hl3 hal
    generalize hl : (rn s).drop p = l at *
    have HL : Hid ((rn s).drop p = l) := hl
    have hll : l.length ≤ (rn s).length := by omega
    have HDL : Hid (l.length = (rn s).length - p) := hdl
    clear hl hdl
    by_cases hfd : pos l < l.length
    · go_wp2_with fail
      refine (index_any (some ⟨W1.heap.size, o, none⟩) cc l _ HRU.out (by omega)).mono ?_
      rintro e w' ⟨rfl, rfl⟩
      rw [if_pos hfd]
      have HLN : Hid (lns l = cr (l.take (pos l)) :: lns (l.drop (pos l + 1))) := by have := HLP.out; rw [if_pos hfd] at this; exact this
      clear HLP hmk kw
      generalize pos l = k at *
      have k0 : (0 : Int) ≤ (k : Int) := by omega
      have k1 : (k : Int) ≤ (cc : Int) := by omega
      have k2 : IntKind.i64.wrap ((k : Int) + 1) = (k : Int) + 1 := by rw [IntKind.wrap_i64]; omega
      have k3 : (0 : Int) ≤ (k : Int) + 1 := by omega
      have k4 : (k : Int) + 1 ≤ (l.length : Int) := by omega
      have k5 : ((k : Int) + 1).toNat = k + 1 := by omega
      have k6 : (l.length : Int) ≤ (cc : Int) := by omega
      have HTL : Hid ((l.take k).length = k) := by show _ = _; simp; omega
      go_upto_region 6 with fail
      go_cut [] from 21 to 52 (fun wx => ∃ vs' xs', CM w B V w.heap.size W1.heap.size (runeRow s c) (.string ⟨#[]⟩) vs' xs' (acc.length + 1) wx ∧ Vals W1.heap.size (rn s) xs' (acc ++ [cr (l.take k)]))
      case first =>
        have HRD : Hid (Runes w'.drew (some ⟨W1.heap.size, o, none⟩) (l.take k)) := HRU.out.take k
        have hfa := fun ob => HCM.out.alloc (ob := ob)
        have hva := fun ob => (hfa ob).1
        have h4a := fun ob => (hfa ob).2.1
        have hfra := fun ob => (hfa ob).2.2
        clear hfa
        go_region_law (first
          | (refine step_append_lies _ (by rfl) _ _ _ (by rfl) w.heap.size 27 i0 _ 1 24 Try.underlying25 hi hz0 hz1 hz2 rfl (by omega) vs acc.length xs (by rfl) (HCM.out.row.alloc _) ⟨w'.heap.size, 0, none⟩ 1 1 [.slice (some ⟨W1.heap.size, o, none⟩) kk cc] (by rfl) (by rfl) (World.news_of_block (cs := #[.slice (some ⟨W1.heap.size, o, none⟩) kk cc]) (t := 27) (fr := (0, 0)) (heap_alloc_new w' _)) (by simp [Value.oneCell']) (by omega) (by unfold maxLen; omega) (by omega) (by simp; omega) (w'.heap.size + 1) (by simp) ?_; intro g2 cap2 w2 hown2 hgrow2 hat hlt2; have hgrow3 := grown_drew hgrow2; obtain ⟨hv2, h42, hfr2⟩ := HCM.out.grown hBlt hVlt hgrow3)
          | (go_simp; go_at_call 15; refine (withoutCR_n (some ⟨W1.heap.size, o, none⟩) cc k (l.take k) _ HTL.out HRD.out (by omega) (by omega)).mono ?_; rintro e wq ⟨⟨kk, rfl, hkk, hcr⟩, rfl⟩; dsimp only))
        all_goals
          go_wp2_with fail
          go_meet
          case rel => exact clo_push (l := l.take k) HCM.out hBlt hVlt hVB HVL.out (fun j => by rw [List.take_take]; exact HSG.out _) hkk (by have := HTL.out; omega) hcr hown2 hgrow3
      case rest =>
        obtain ⟨vs', xs', hcm', hvl'⟩ := hcut
        have HCM' : Hid (CM w B V w.heap.size W1.heap.size (runeRow s c) (.string ⟨#[]⟩) vs' xs' (acc.length + 1) wc) := hcm'
        have HVL' : Hid (Vals W1.heap.size (rn s) xs' (acc ++ [cr (l.take k)])) := hvl'
        clear hcm' hvl' HCM HVL hV1 h41 hf1
        by_cases hk7 : cc = k + 1
        · go_wp2_with fail
          exact lr_next HL.out hfd (by omega) (fun h => by have := HDL.out; omega) HCM'.out HVL'.out HAC.out HLN.out
        · go_wp2_with fail
          exact lr_next HL.out hfd (by omega) (fun h => by have := hop (by omega); omega) HCM'.out HVL'.out HAC.out HLN.out
    · go_wp2_with fail
      refine (index_any (some ⟨W1.heap.size, o, none⟩) cc l _ HRU.out (by omega)).mono ?_
      rintro e w' ⟨rfl, rfl⟩
      rw [if_neg hfd]
      have HLN : Hid (lns l = [cr l]) := by have := HLP.out; rw [if_neg hfd] at this; exact this
      clear HLP hmk kw
      go_upto_region 5 with fail
      go_cut [] from 21 to 52 (fun wx => CloPost w B V s wx)
      case first =>
        have HRD : Hid (Runes w'.drew (some ⟨W1.heap.size, o, none⟩) l) := HRU.out
        have hfa := fun ob => HCM.out.alloc (ob := ob)
        have hva := fun ob => (hfa ob).1
        have h4a := fun ob => (hfa ob).2.1
        have hfra := fun ob => (hfa ob).2.2
        clear hfa
        go_region_law (first
          | (refine step_append_lies _ (by rfl) _ _ _ (by rfl) w.heap.size 27 i0 _ 1 24 Try.underlying25 hi hz0 hz1 hz2 rfl (by omega) vs acc.length xs (by rfl) (HCM.out.row.alloc _) ⟨w'.heap.size, 0, none⟩ 1 1 [.slice (some ⟨W1.heap.size, o, none⟩) kk cc] (by rfl) (by rfl) (World.news_of_block (cs := #[.slice (some ⟨W1.heap.size, o, none⟩) kk cc]) (t := 27) (fr := (0, 0)) (heap_alloc_new w' _)) (by simp [Value.oneCell']) (by omega) (by unfold maxLen; omega) (by omega) (by simp; omega) (w'.heap.size + 1) (by simp) ?_; intro g2 cap2 w2 hown2 hgrow2 hat hlt2; have hgrow3 := grown_drew hgrow2; obtain ⟨hv2, h42, hfr2⟩ := HCM.out.grown hBlt hVlt hgrow3)
          | (go_simp; go_at_call 15; refine (withoutCR_any (some ⟨W1.heap.size, o, none⟩) cc l _ HRD.out hcc (by omega)).mono ?_; rintro e wq ⟨⟨kk, rfl, hkk, hcr⟩, rfl⟩; dsimp only))
        all_goals
          go_wp2_with fail
          go_meet
          case rel => exact clo_end (acc := acc) (l := l) HCM.out hBlt hVlt hVB HVL.out HAC.out HLN.out HSG.out hkk hcr hown2 hgrow3
      case rest =>
        go_wp2_with fail
        exact bodyPost_ret (results_none rfl _ _ _) rfl ⟨rfl, hcut⟩
end Go.Proofs.Qxb6608979a
