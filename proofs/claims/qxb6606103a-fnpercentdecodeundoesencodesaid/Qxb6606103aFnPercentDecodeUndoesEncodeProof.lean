/-
  THE PROOF of 'Rows.FnPercentDecodeUndoesEncodeSaid': the frame is the guide's shell, turned to 'Below' (Builder.String freezes bytes of a new block: 'Grown' does not hold).
-/
import Derived.Test.Qxb6606103aRows
import Derived.WalkKit
import Derived.ProofKit
import Derived.OpenShut
import Derived.ShutString
import Derived.Test.Qxb6606103aEnc
import Derived.Test.Qxb6606103aDec
namespace Go.Proofs.Qxb6606103a.fnPercentDecodeUndoesEncode
open Go.ChangeShapes Go.WideShapes Go.ChangeAt Go.RowKit
open Go.ChangeMaps (open_string shut_string)
set_option linter.unusedVariables false      -- a walk need not use every 'w<i>' (that an integer argument fits its kind)

theorem own : ownKnob Try.prog.godebug = none := by kernel_rfl

theorem zzBytes_any (a0 : ByteArray) (a1 a2 : Bool) (w : World) (hs : a0.size ≤ 1048576) :
    Calls Try.prog 9 #[.string a0, .bool a1, .bool a2] w fun e w' => e = .returned (.bool true) ∧ w' = w := by
  go_enter Try.func9, Try.ntmps9
  go_wp2
  go_ret
  exact ⟨rfl, rfl⟩

theorem zzBytes_big (a0 : ByteArray) (a1 a2 : Bool) (w : World) (hs : ¬ a0.size ≤ 1048576) (w0 : a0.size ≤ maxLen) :
    Calls Try.prog 9 #[.string a0, .bool a1, .bool a2] w fun e w' => e = .returned (.bool false) ∧ w' = w := by
  unfold maxLen at w0
  go_enter Try.func9, Try.ntmps9
  go_wp2
  go_ret
  exact ⟨rfl, rfl⟩

theorem zz_any (s : ByteArray) (w : World) (hs : s.size ≤ 16777216) :
    Calls Try.prog 7 #[.string s] w fun e w' => e = .returned (.tuple #[.string ⟨(Pd.go s.data.toList 0 []).1.toArray⟩, .int .i64 (Pd.go s.data.toList 0 []).2]) ∧ Below w.heap.size w w' := by
  generalize hR : Pd.go s.data.toList 0 [] = R
  have HR : Hid (Pd.go s.data.toList 0 [] = R) := hR
  clear hR
  go_enter Try.func7, Try.ntmps7
  go_wp2_with fail
  refine (percentDecode_any s _ hs).mono ?_
  rintro e w' ⟨rfl, hb⟩
  rw [HR.out]
  go_wp2
  go_ret2
  exact ⟨rfl, hb⟩

/-! ### STEP 1: THE WALK: the Go text returns true, and writes nothing that was there. -/
theorem walk (a0 : ByteArray) (a1 : Bool) (a2 : Bool) (w0 : a0.size ≤ maxLen) (w : World) :
    Calls Try.prog 4 #[.string a0, .bool a1, .bool a2] w fun e w' => e = .returned (.bool true) ∧ Below w.heap.size w w' := by
  by_cases h1 : a0.size ≤ 1048576
  · by_cases h2 : a0.size ≤ 262144
    · have hle := Pd.enc_le a1 a2 a0.data.toList
      have hsz : a0.data.toList.length = a0.size := by simp
      have HG : Hid (Pd.go (Pd.enc a1 a2 a0.data.toList) 0 [] = (a0.data.toList, -1)) := by
        have := Pd.go_enc a1 a2 a0.data.toList 0 []
        rw [List.nil_append] at this; exact this
      go_enter Try.func4, Try.ntmps4
      go_wp2_with fail
      refine (zzBytes_any a0 a1 a2 _ h1).mono ?_
      rintro e w' ⟨rfl, rfl⟩
      go_wp2_with fail
      refine (pdEncode_any a0 a1 a2 _ h2).mono ?_
      rintro e w1 ⟨rfl, hb1⟩
      generalize Pd.enc a1 a2 a0.data.toList = E at *
      go_wp2_with fail
      refine (zz_any ⟨E.toArray⟩ _ (by show E.toArray.size ≤ _; simp; omega)).mono ?_
      rintro e w2 ⟨rfl, hb2⟩
      simp only [HG.out]
      go_wp2
      go_ret
      exact ⟨rfl, hb1.trans (hb2.mono hb1.size)⟩
    · go_enter Try.func4, Try.ntmps4
      go_wp2_with fail
      refine (zzBytes_any a0 a1 a2 _ h1).mono ?_
      rintro e w' ⟨rfl, rfl⟩
      go_wp2
      go_ret
      exact ⟨rfl, Below.refl _ _⟩
  · go_enter Try.func4, Try.ntmps4
    go_wp2_with fail
    refine (zzBytes_big a0 a1 a2 _ h1 w0).mono ?_
    rintro e w' ⟨rfl, rfl⟩
    go_wp2
    go_ret
    exact ⟨rfl, Below.refl _ _⟩

/-! ### THE ROW's STEP: WRITTEN OUT: LEAVE IT -/
set_option maxRecDepth 100000 in
theorem lifted (os : Os) (started : os.Started) (H : Type) (enc : TypeId × Value → H) :
    ReturnsInHanded {} Try.checked os 4 .any (Rows.fnPercentDecodeUndoesEncodeSpec.pre6 enc Try.prog Try.f4 Rows.fnPercentDecodeUndoesEncodeRow.domain false) (Rows.fnPercentDecodeUndoesEncodeSpec.post enc Try.prog Try.f4 false true false false) := by
  refine returnsInHanded_of_change (C := Try.checked) own started (by kernel_rfl) Try.func4
    (ChangeSpec.witness6 (enc := enc) (C := Try.checked) false ⟨#[], #[.string ByteArray.empty, .bool false, .bool false], []⟩ 8 (by kernel_rfl) (by kernel_rfl) (by kernel_rfl) (by kernel_rfl)) ?_
  intro W base args ds gs before hval0 hW hcnd _
  have hval : ∀ (j : Nat) t v, Try.f4.params[j]? = some t → args[j]? = some v → Value.okWide Try.prog W .any base t v := hval0
  have hW' := hW
  obtain ⟨p, q, hA0, hV, rfl, hfz, hnd⟩ := hW
  have hA : DataW.TrodAll enc Try.prog W 0 (fun _ => true) true Try.f4.params.toList args.toList ds p := hA0
  rw [Try.params4] at hA hval
  obtain ⟨v0, vs0, d0, ds0, p0, q0, hargs, rfl, rfl, h0, r0⟩ := trodAll_cons hA
  obtain ⟨v1, vs1, d1, ds1, p1, q1, rfl, rfl, rfl, h1, r1⟩ := trodAll_cons r0
  obtain ⟨v2, vs2, d2, ds2, p2, q2, rfl, rfl, rfl, h2, r2⟩ := trodAll_cons r1
  obtain ⟨rfl, rfl, rfl⟩ := trodAll_nil r2
  obtain rfl : args = #[v0, v1, v2] := by cases args; simp_all
  obtain ⟨rfl, rfl⟩ := trodVars_none hV
  obtain ⟨a0, rfl, rfl, rfl, w0⟩ := open_string Try.underlying9 (hval 0 9 v0 rfl rfl) h0
  obtain ⟨a1, rfl, rfl, rfl⟩ := open_bool Try.underlying4 (hval 1 4 v1 rfl rfl) h1
  obtain ⟨a2, rfl, rfl, rfl⟩ := open_bool Try.underlying4 (hval 2 4 v2 rfl rfl) h2
  clear hA0 hval0
  simp only [List.append_nil] at hW'
  refine (walk a0 a1 a2 w0 W).mono fun e W' ⟨he, hg⟩ => ?_
  subst he
  exact ⟨_, rfl, _, _, _, [], [], [], hW', (trodAll_cons_mk (shut_bool Try.underlying4 _) trodAll_mk0), (trodAll_cons_mk (shut_string Try.underlying9 w0) (trodAll_cons_mk (shut_bool Try.underlying4 _) (trodAll_cons_mk (shut_bool Try.underlying4 _) trodAll_mk0))), rfl, hg.frame _, fun h => by cases h⟩

theorem over : Rows.fnPercentDecodeUndoesEncodeRow.holds Try.pinned (OpenSpec.ofChange Rows.fnPercentDecodeUndoesEncodeSpec) :=
  OpenClaim.holds_of_wide 4 Try.f4 rfl rfl rfl rfl rfl rfl rfl ⟨rfl, rfl, rfl, rfl, rfl⟩ rfl rfl rfl rfl rfl (by kernel_rfl) Try.func4 (by kernel_rfl)
    (of_decide_eq_true (by kernel_rfl)) (by unfold Func.isWrapper; first | (rw [if_pos (by decide +kernel)]; kernel_rfl) | (rw [if_neg (by decide +kernel)]; exact ⟨rfl, rfl⟩))
    (fun os started H enc _ => lifted os started H enc)

/-- ████ THE STATEMENT ████ -/
theorem proved : Rows.FnPercentDecodeUndoesEncodeSaid :=
  over
#print axioms proved
end Go.Proofs.Qxb6606103a.fnPercentDecodeUndoesEncode
