/-
  strings.IndexAny at the two braces, for every text: the long road by the shelf's contract; the short road (a range over the text, strings.IndexRune at each rune) walked here, text that is no ASCII too.
-/
import Derived.Test.Qxb6608706aFmtRows
import Derived.WalkKit
import Derived.WalkSpells
import Derived.WalkLawsBesides
import Derived.BigCall
import Derived.BigQuiet
import Derived.Deep.QuietTactic
import Derived.Deep.LoopGhost
import Derived.Lib.OthersKept
import Derived.Lib.MapLaws
import Derived.Lib.DecodeN
import Derived.Lib.IndexAny
import Derived.Laws.Runes
import Derived.Test.Qxb6608706aFmtShelf
namespace Go.Proofs.Qxb6608706aFmt
open Go.RowKit

def braces : ByteArray := ⟨#[123, 125]⟩

theorem below_iter0 (w : World) (s : ByteArray) (pos : Nat) : Below w.heap.size w (w.iter s pos) := by
  refine ⟨rfl, rfl, rfl, ?_, fun k hk => ?_⟩
  · show w.heap.size ≤ (w.heap.push _).size; simp
  · show (w.heap.push _)[k]? = _; rw [Array.getElem?_push]; rw [if_neg (by omega)]

set_option maxHeartbeats 400000 in
set_option maxRecDepth 100000 in
/-- strings.IndexRune at the two braces, U+FFFD: not there. -/
theorem indexRune_err (w : World) :
    Calls Tryf.prog 26 #[.string ⟨#[123, 125]⟩, .int .i32 65533] w fun e w' => e = .returned (.int .i64 (-1)) ∧ Below w.heap.size w w' := by
  go_enter Tryf.func26, Tryf.ntmps26
  go_wp2_with fail
  go_loopg [5, 6] 2 (fun g _ _ wx => ∃ i : Nat, i + g = 2 ∧ wx = w.iter ⟨#[123, 125]⟩ i)
  case atStart => exact ⟨0, by omega, rfl⟩
  case round =>
    obtain ⟨i, hig, rfl⟩ := hrel
    cases gk with
    | zero =>
      obtain rfl : i = 2 := by omega
      have hnx := run_next_end (P := Tryf.prog) w ⟨#[123, 125]⟩ 2
      go_wp2
      go_ret
      exact ⟨rfl, below_iter0 w _ _⟩
    | succ g =>
      have hi : i = 0 ∨ i = 1 := by omega
      rcases hi with rfl | rfl
      · have hnx := fun ty => run_next_ascii (P := Tryf.prog) w ⟨#[123, 125]⟩ 0 ty (by decide) (by decide)
        go_wp2
        go_roundg g
        case measure => omega
        case rel => exact ⟨1, by omega, rfl⟩
      · have hnx := fun ty => run_next_ascii (P := Tryf.prog) w ⟨#[123, 125]⟩ 1 ty (by decide) (by decide)
        go_wp2
        go_roundg g
        case measure => omega
        case rel => exact ⟨2, by omega, rfl⟩

set_option maxHeartbeats 400000 in
set_option maxRecDepth 100000 in
theorem indexRune_val (r : Int) (w : World) (h : 128 ≤ r) (hne : (r == 65533) = false) (hv : Utf8.valid r = true) :
    Calls Tryf.prog 26 #[.string ⟨#[123, 125]⟩, .int .i32 r] w fun e w' => e = .returned (.int .i64 (-1)) ∧ Below w.heap.size w w' := by
  have hval : Lib.validRune r = true := by
    simp only [Utf8.valid, Lib.validRune, Bool.or_eq_true, Bool.and_eq_true, decide_eq_true_eq] at hv ⊢
    omega
  obtain ⟨h2, h4, hlast⟩ := encode_facts r hv h
  have HL : Hid (∀ h : (Utf8.encode r).size - 1 < (Utf8.encode r).size, 128 ≤ ((Utf8.encode r)[(Utf8.encode r).size - 1]'h).toNat) := hlast
  clear hlast
  have HV : Hid (Lib.validRune r = true) := hval
  clear hval hv
  go_enter Tryf.func26, Tryf.ntmps26
  go_wp2_with fail
  refine (Tryf.utf8_ValidRune r _).mono ?_
  rintro e w' ⟨rfl, rfl⟩
  rw [HV.out]
  have hcase : (Utf8.encode r).size = 2 ∨ (Utf8.encode r).size = 3 ∨ (Utf8.encode r).size = 4 := by omega
  clear h2 h4
  rcases hcase with hn | hn | hn
  · have hl : 128 ≤ ((Utf8.encode r)[1]'(by omega)).toNat := by
      have := HL.out (by omega)
      simpa only [hn] using this
    have hx : ∀ w, (Instr.index 9 (.string (Utf8.encode r)) (.int .i64 1)).run Tryf.prog w = .ok (.int .u8 (((Utf8.encode r)[1]'(by omega)).toNat : Int)) w := by
      intro w
      rw [run_index_string (P := Tryf.prog) w 9 _ .i64 1 Tryf.underlying9, dif_pos (by omega)]
      rfl
    have hb : ((125 : Int) != (((Utf8.encode r)[1]'(by omega)).toNat : Int)) = true := by rw [bne_iff_ne]; omega
    have hb2 : ((((⟨#[123, 125]⟩ : ByteArray)[1]'(by decide)).toNat : Int) != (((Utf8.encode r)[1]'(by omega)).toNat : Int)) = true := hb
    clear HL hb
    generalize (Utf8.encode r)[1]'(by omega) = c at *
    go_wp2_with fail
    go_step3
    go_wp2_with fail
    refine wp_loop_rounds 1 ?_
    rw [rounds_succ]
    go_wp2_with fail
    go_step3
    go_wp2_with fail
    go_quiet (fail)
    go_wp2_with fail
    have hw2 : IntKind.i64.wrap 2 = 2 := by decide
    have hsl : ∀ w, (Instr.slice 9 (.string ⟨#[123, 125]⟩) (some (.int .i64 2)) none none).run Tryf.prog w = .ok (.string ⟨#[]⟩) w := fun _ => by kernel_rfl
    have hbw : Below w'.heap.size w' (w'.drewN nq) := below_drewN (Below.refl _ _) nq
    generalize w'.drewN nq = W at *
    have hib := fun (c : Int) (W : World) => Tryf.strings_IndexByte ⟨#[]⟩ c W
    go_quiet ((go_at_call 33; exact Calls.quiet_of_same (hib _ _)))
    go_wp2_with fail
    go_ret
    exact ⟨rfl, below_drewN hbw _⟩
  all_goals
    clear HL
    go_wp2_with fail
    go_step3
    go_wp2_with fail
    refine wp_loop_rounds 1 ?_
    rw [rounds_succ]
    go_wp2_with fail
    rw [Exit.noGoto_ret]
    go_ret
    exact ⟨rfl, Below.refl _ _⟩

set_option maxRecDepth 100000 in
/-- strings.IndexRune at the two braces: no rune beyond ASCII is there. -/
theorem indexRune_high (r : Int) (w : World) (h : 128 ≤ r) :
    Calls Tryf.prog 26 #[.string ⟨#[123, 125]⟩, .int .i32 r] w fun e w' => e = .returned (.int .i64 (-1)) ∧ Below w.heap.size w w' := by
  by_cases h1 : r = 65533
  · subst h1; exact indexRune_err w
  · have hne : (r == 65533) = false := by rw [beq_eq_false_iff_ne]; exact h1
    by_cases hv : Utf8.valid r = true
    · exact indexRune_val r w h hne hv
    · have hval : Lib.validRune r = false := by
        simp only [Utf8.valid, Lib.validRune, Bool.or_eq_true, Bool.and_eq_true, decide_eq_true_eq, decide_eq_false_iff_not] at hv ⊢
        omega
      have HV : Hid (Lib.validRune r = false) := hval
      clear hval hv h1
      go_enter Tryf.func26, Tryf.ntmps26
      go_wp2_with fail
      refine (Tryf.utf8_ValidRune r _).mono ?_
      rintro e w' ⟨rfl, rfl⟩
      rw [HV.out]
      go_wp2
      go_ret
      exact ⟨rfl, Below.refl _ _⟩

/-- What a step of a range over a text passes, where it does not stand at ASCII: no brace. -/
theorem decode_high_pass (s : ByteArray) (pos : Nat) (h : pos < s.size) (ha : 128 ≤ (s[pos]'h).toNat) :
    128 ≤ (Utf8.decode s pos).1 ∧ 1 ≤ (Utf8.decode s pos).2 ∧ pos + (Utf8.decode s pos).2 ≤ s.size ∧ ∀ j, pos ≤ j → j < pos + (Utf8.decode s pos).2 → ∀ hj : j < s.size, 128 ≤ (s[j]'hj).toNat := by
  obtain ⟨h1, h2⟩ := decode_high s pos h ha
  have g : ∀ i (hi : i < s.size), (s.get! i).toNat = (s[i]'hi).toNat := by
    intro i hi
    have : s.get! i = s[i]'hi := by
      show s.data[i]! = s.data[i]
      exact getElem!_pos s.data i hi
    rw [this]
  refine ⟨h1, h2, ?_⟩
  rw [Lib.decode_at] at h1 h2 ⊢
  rcases Lib.decodeN_shape (s.size - pos) (s.get! pos).toNat (s.get! (pos + 1)).toNat (s.get! (pos + 2)).toNat (s.get! (pos + 3)).toNat with ⟨e, _⟩ | ⟨_, n1, b1, _, e⟩ | ⟨_, n1, b1, b2, _, _, e⟩ | ⟨_, n1, b1, b2, b3, _, _, e⟩ | e
  · rw [g pos h] at e; omega
  · rw [e]
    refine ⟨by show pos + 2 ≤ _; omega, ?_⟩
    intro j hj1 hj2 hj
    replace hj2 : j < pos + 2 := hj2
    have hc : j = pos ∨ j = pos + 1 := by omega
    rcases hc with rfl | rfl
    · exact ha
    · rw [g _ hj] at b1; omega
  · rw [e]
    refine ⟨by show pos + 3 ≤ _; omega, ?_⟩
    intro j hj1 hj2 hj
    replace hj2 : j < pos + 3 := hj2
    have hc : j = pos ∨ j = pos + 1 ∨ j = pos + 2 := by omega
    rcases hc with rfl | rfl | rfl
    · exact ha
    · rw [g _ hj] at b1; omega
    · rw [g _ hj] at b2; omega
  · rw [e]
    refine ⟨by show pos + 4 ≤ _; omega, ?_⟩
    intro j hj1 hj2 hj
    replace hj2 : j < pos + 4 := hj2
    have hc : j = pos ∨ j = pos + 1 ∨ j = pos + 2 ∨ j = pos + 3 := by omega
    rcases hc with rfl | rfl | rfl | rfl
    · exact ha
    · rw [g _ hj] at b1; omega
    · rw [g _ hj] at b2; omega
    · rw [g _ hj] at b3; omega
  · rw [e]
    refine ⟨by show pos + 1 ≤ _; omega, ?_⟩
    intro j hj1 hj2 hj
    replace hj2 : j < pos + 1 := hj2
    have hc : j = pos := by omega
    subst hc; exact ha

set_option maxHeartbeats 1000000 in
set_option maxRecDepth 100000 in
theorem indexAny_short (s : ByteArray) (w : World) (h8 : s.size ≤ 8) :
    Calls Tryf.prog 23 #[.string s, .string ⟨#[123, 125]⟩] w fun e w' => e = .returned (.int .i64 (Lib.indexAny s.data.toList [123, 125])) ∧ Below w.heap.size w w' := by
  have h8z : decide ((8 : Int) < (s.size : Int)) = false := decide_eq_false (by omega)
  generalize hX : Lib.indexAny s.data.toList [123, 125] = X
  have HX : Hid (Lib.indexAny s.data.toList [123, 125] = X) := hX
  clear hX
  go_enter Tryf.func23, Tryf.ntmps23
  go_wp2_with fail
  refine (Tryf.strings_shouldUseASCIISet _ _).mono ?_
  rintro e w1 ⟨rfl, rfl⟩
  rw [h8z]
  go_wp2_with fail
  go_loopg [9, 10] s.size (fun g _ _ wx => ∃ i : Nat, i + g = s.size ∧ wx.heap[w1.heap.size]? = some (.stringIter s i) ∧ Below w1.heap.size w1 wx ∧ w1.heap.size < wx.heap.size ∧ Hid (Lib.NoAny s.data.toList [123, 125] i))
  case atStart => exact ⟨0, by omega, World.iter_heap w1 s 0, below_iter0 w1 s 0, by show _ < (w1.heap.push _).size; simp, Lib.NoAny.zero _ _⟩
  case round =>
    obtain ⟨i, hig, hit, hbel, hsz, hno⟩ := hrel
    by_cases hi : i < s.size
    · by_cases hasc : (s[i]'hi).toNat < 128
      · obtain ⟨x, hx⟩ : ∃ x : UInt8, s[i]'hi = x := ⟨_, rfl⟩
        have hxl : s.data.toList[i]? = some x := by rw [← hx]; exact Lib.data_getElem? s i hi
        have hnx := fun ty => Lib.run_next_ascii_at (P := Tryf.prog) wr w1.heap.size s i ty hit hi hasc
        rw [hx] at hnx hasc
        have Hx : Hid (s.data.toList[i]? = some x) := hxl
        clear hxl hx
        have hcon := Lib.contains_iff_indexByte [123, 125] x
        have hback : ((x.toNat : Int)).toNat.toUInt8 = x := by simp
        have HB : Hid (((x.toNat : Int)).toNat.toUInt8 = x) := hback
        clear hback
        by_cases hin : [123, 125].contains x = true
        · rw [hin] at hcon
          have hge : (0 : Int) ≤ Lib.indexByte [123, 125] x := of_decide_eq_true hcon.symm
          have HF : Hid (X = (i : Int)) := by rw [← HX.out]; exact Lib.indexAny_hit hno.out Hx.out hin
          clear hcon hin hno Hx HX
          go_wp2_with fail
          refine (Tryf.strings_IndexRune_ascii _ _ _ (by omega) (by omega)).mono ?_
          rintro e w2 ⟨rfl, rfl⟩
          rw [HB.out]
          go_wp2
          go_ret
          rw [HF.out]
          exact ⟨rfl, Lib.below_iterAt hbel (Nat.le_refl _) s _⟩
        · have hin' : [123, 125].contains x = false := by simpa using hin
          rw [hin'] at hcon
          have hlt : ¬ ((0 : Int) ≤ Lib.indexByte [123, 125] x) := of_decide_eq_false hcon.symm
          have hno' : Hid (Lib.NoAny s.data.toList [123, 125] (i + 1)) := hno.out.succ Hx.out hin'
          clear hcon hin hin' hno Hx HX
          go_wp2_with fail
          refine (Tryf.strings_IndexRune_ascii _ _ _ (by omega) (by omega)).mono ?_
          rintro e w2 ⟨rfl, rfl⟩
          rw [HB.out]
          go_wp2
          go_roundg (s.size - (i + 1))
          case measure => omega
          case rel => exact ⟨i + 1, by omega, Lib.iterAt_heap _ _ _ _ _ hit, Lib.below_iterAt hbel (Nat.le_refl _) s _, by rw [Lib.iterAt_size]; exact hsz, hno'⟩
      · obtain ⟨hd1, hd2, hd3, hd4⟩ := decode_high_pass s i hi (by omega)
        have hnx := fun ty => Lib.run_next_any_at (P := Tryf.prog) wr w1.heap.size s i ty hit hi
        have hno' : Hid (Lib.NoAny s.data.toList [123, 125] (i + (Utf8.decode s i).2)) := by
          intro j b hj hb
          by_cases hji : j < i
          · exact hno.out j b hji hb
          · have hjs : j < s.size := by omega
            have h128 := hd4 j (by omega) hj hjs
            have hbj : b = s[j]'hjs := by
              have := Lib.data_getElem? s j hjs
              rw [this] at hb; exact (Option.some.inj hb).symm
            subst hbj
            have e1 : (s[j]'hjs) ≠ 123 := by intro e; rw [e] at h128; exact absurd h128 (by decide)
            have e2 : (s[j]'hjs) ≠ 125 := by intro e; rw [e] at h128; exact absurd h128 (by decide)
            simp [e1, e2]
        clear hd4 hno HX hasc
        generalize (Utf8.decode s i).1 = rr at *
        generalize (Utf8.decode s i).2 = ww at *
        go_wp2_with fail
        refine (indexRune_high _ _ (by omega)).mono ?_
        rintro e w2 ⟨rfl, hb2⟩
        go_wp2
        go_roundg (s.size - (i + ww))
        case measure => omega
        case rel =>
          rw [Lib.iterAt_size] at hb2
          exact ⟨i + ww, by omega, (hb2.block _ hsz).trans (Lib.iterAt_heap _ _ _ _ _ hit), (Lib.below_iterAt hbel (Nat.le_refl _) s _).trans (hb2.mono (by omega)), by have := hb2.size; rw [Lib.iterAt_size] at this; omega, hno'⟩
    · obtain rfl : i = s.size := by omega
      have hnx := fun ty => Lib.run_next_end_at (P := Tryf.prog) wr w1.heap.size s s.size ty hit (by omega)
      have HF : Hid (X = -1) := by
        rw [← HX.out]; exact Lib.indexAny_none (by rw [← Lib.size_eq]; exact hno.out)
      clear hno HX
      go_wp2
      go_ret
      rw [HF.out]
      exact ⟨rfl, hbel⟩

theorem Tryf.info54 : (Tryf.prog.info? 54).map (fun i => (i.zero, i.size)) = some (some (.agg (Array.replicate 256 (.bool false))), 256) := by kernel_rfl

/-- strings.IndexAny at the two braces, for every text of at most 2^24 bytes. -/
theorem indexAny_brace (s : ByteArray) (w : World) (hs : s.size ≤ 16777216) :
    Calls Tryf.prog 23 #[.string s, .string ⟨#[123, 125]⟩] w fun e w' => e = .returned (.int .i64 (Lib.indexAny s.data.toList [123, 125])) ∧ Below w.heap.size w w' := by
  by_cases h8 : s.size ≤ 8
  · exact indexAny_short s w h8
  · refine (Tryf.strings_IndexAny_long (zero_of_info Tryf.info54).1 s ⟨#[123, 125]⟩ w (by decide) (by omega) (by omega) (by decide) ?_).mono ?_
    · intro j b hb
      match j, hb with
      | 0, hb => simp at hb; subst hb; decide
      | 1, hb => simp at hb; subst hb; decide
      | j + 2, hb => simp at hb
    · rintro e w' ⟨rfl, rfl⟩
      exact ⟨rfl, ((Below.refl _ _).alloc (Nat.le_refl _) _).alloc (by simp) _⟩
end Go.Proofs.Qxb6608706aFmt
