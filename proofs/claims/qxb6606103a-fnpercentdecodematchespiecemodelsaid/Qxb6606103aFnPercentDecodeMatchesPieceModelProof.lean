/-
  THE PROOF of 'Rows.FnPercentDecodeMatchesPieceModelSaid': the frame is the guide's shell, turned to 'Below' (Builder.String freezes bytes of a new block: 'Grown' does not hold).
-/
import Derived.Test.Qxb6606103aRows
import Derived.WalkKit
import Derived.ProofKit
import Derived.OpenShut
import Derived.ShutString
import Derived.Test.Qxb6606103aMod
namespace Go.Proofs.Qxb6606103a.fnPercentDecodeMatchesPieceModel
open Go.ChangeShapes Go.WideShapes Go.ChangeAt Go.RowKit
open Go.ChangeMaps (open_string shut_string)
set_option linter.unusedVariables false      -- a walk need not use every 'w<i>' (that an integer argument fits its kind)

theorem own : ownKnob Try.prog.godebug = none := by kernel_rfl

theorem zzBytes_any (a0 : ByteArray) (w : World) (hs : a0.size ≤ 1048576) :
    Calls Try.prog 6 #[.string a0] w fun e w' => e = .returned (.bool true) ∧ w' = w := by
  go_enter Try.func6, Try.ntmps6
  go_wp2
  go_ret
  exact ⟨rfl, rfl⟩

theorem zzBytes_big (a0 : ByteArray) (w : World) (hs : ¬ a0.size ≤ 1048576) (w0 : a0.size ≤ maxLen) :
    Calls Try.prog 6 #[.string a0] w fun e w' => e = .returned (.bool false) ∧ w' = w := by
  unfold maxLen at w0
  go_enter Try.func6, Try.ntmps6
  go_wp2
  go_ret
  exact ⟨rfl, rfl⟩

theorem zz_any (s : ByteArray) (w : World) (hs : s.size ≤ 16777216) :
    Calls Try.prog 7 #[.string s] w fun e w' => e = .returned (.tuple #[.string ⟨(Pd.go s.data.toList 0 []).1.toArray⟩, .int .i64 (Pd.go s.data.toList 0 []).2]) ∧ Below w.heap.size w w' := by
  generalize hR : Pd.go s.data.toList 0 [] = R
  have HR : Hid (Pd.go s.data.toList 0 [] = R) := hR
  clear hR
  go_enter Try.func7, Try.ntmps7
  go_wp2_with fail
  refine (percentDecode_any s _ hs).mono ?_
  rintro e w' ⟨rfl, hb⟩
  rw [HR.out]
  go_wp2
  go_ret2
  exact ⟨rfl, hb⟩

/-! ### STEP 1: THE WALK: the Go text returns true, and writes nothing that was there. -/
theorem walk (a0 : ByteArray) (w0 : a0.size ≤ maxLen) (w : World) :
    Calls Try.prog 3 #[.string a0] w fun e w' => e = .returned (.bool true) ∧ Below w.heap.size w w' := by
  by_cases h1 : a0.size ≤ 1048576
  · generalize hR : Pd.go a0.data.toList 0 [] = R
    have HR : Hid (Pd.go a0.data.toList 0 [] = R) := hR
    clear hR
    go_enter Try.func3, Try.ntmps3
    go_wp2_with fail
    refine (zzBytes_any a0 _ h1).mono ?_
    rintro e w' ⟨rfl, rfl⟩
    go_wp2_with fail
    refine (zz_any a0 _ (by omega)).mono ?_
    rintro e w2 ⟨rfl, hb2⟩
    rw [HR.out]
    go_wp2_with fail
    refine (pdModel_any a0 _ (by omega)).mono ?_
    rintro e w3 ⟨rfl, hb3⟩
    rw [HR.out]
    go_wp2
    go_ret
    exact ⟨by simp, hb2.trans (hb3.mono hb2.size)⟩
  · go_enter Try.func3, Try.ntmps3
    go_wp2_with fail
    refine (zzBytes_big a0 _ h1 w0).mono ?_
    rintro e w' ⟨rfl, rfl⟩
    go_wp2
    go_ret
    exact ⟨rfl, Below.refl _ _⟩

/-! ### THE ROW's STEP: WRITTEN OUT: LEAVE IT -/
set_option maxRecDepth 100000 in
theorem lifted (os : Os) (started : os.Started) (H : Type) (enc : TypeId × Value → H) :
    ReturnsInHanded {} Try.checked os 3 .any (Rows.fnPercentDecodeMatchesPieceModelSpec.pre6 enc Try.prog Try.f3 Rows.fnPercentDecodeMatchesPieceModelRow.domain false) (Rows.fnPercentDecodeMatchesPieceModelSpec.post enc Try.prog Try.f3 false true false false) := by
  refine returnsInHanded_of_change (C := Try.checked) own started (by kernel_rfl) Try.func3
    (ChangeSpec.witness6 (enc := enc) (C := Try.checked) false ⟨#[], #[.string ByteArray.empty], []⟩ 8 (by kernel_rfl) (by kernel_rfl) (by kernel_rfl) (by kernel_rfl)) ?_
  intro W base args ds gs before hval0 hW hcnd _
  have hval : ∀ (j : Nat) t v, Try.f3.params[j]? = some t → args[j]? = some v → Value.okWide Try.prog W .any base t v := hval0
  have hW' := hW
  obtain ⟨p, q, hA0, hV, rfl, hfz, hnd⟩ := hW
  have hA : DataW.TrodAll enc Try.prog W 0 (fun _ => true) true Try.f3.params.toList args.toList ds p := hA0
  rw [Try.params3] at hA hval
  obtain ⟨v0, vs0, d0, ds0, p0, q0, hargs, rfl, rfl, h0, r0⟩ := trodAll_cons hA
  obtain ⟨rfl, rfl, rfl⟩ := trodAll_nil r0
  obtain rfl : args = #[v0] := by cases args; simp_all
  obtain ⟨rfl, rfl⟩ := trodVars_none hV
  obtain ⟨a0, rfl, rfl, rfl, w0⟩ := open_string Try.underlying9 (hval 0 9 v0 rfl rfl) h0
  clear hA0 hval0
  simp only [List.append_nil] at hW'
  refine (walk a0 w0 W).mono fun e W' ⟨he, hg⟩ => ?_
  subst he
  exact ⟨_, rfl, _, _, _, [], [], [], hW', (trodAll_cons_mk (shut_bool Try.underlying4 _) trodAll_mk0), (trodAll_cons_mk (shut_string Try.underlying9 w0) trodAll_mk0), rfl, hg.frame _, fun h => by cases h⟩

theorem over : Rows.fnPercentDecodeMatchesPieceModelRow.holds Try.pinned (OpenSpec.ofChange Rows.fnPercentDecodeMatchesPieceModelSpec) :=
  OpenClaim.holds_of_wide 3 Try.f3 rfl rfl rfl rfl rfl rfl rfl ⟨rfl, rfl, rfl, rfl, rfl⟩ rfl rfl rfl rfl rfl (by kernel_rfl) Try.func3 (by kernel_rfl)
    (of_decide_eq_true (by kernel_rfl)) (by unfold Func.isWrapper; first | (rw [if_pos (by decide +kernel)]; kernel_rfl) | (rw [if_neg (by decide +kernel)]; exact ⟨rfl, rfl⟩))
    (fun os started H enc _ => lifted os started H enc)

/-- ████ THE STATEMENT ████ -/
theorem proved : Rows.FnPercentDecodeMatchesPieceModelSaid :=
  over
#print axioms proved
end Go.Proofs.Qxb6606103a.fnPercentDecodeMatchesPieceModel
