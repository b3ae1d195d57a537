/-
  THE PROOF OF 'Rows.FnSameDomainIgnoresASCIICaseSaid' ('example.com/diogenes/diogenes/zzlaws_root_b1.FnSameDomainIgnoresASCIICase'), WRITTEN BY PROGRAM (proof-skeleton.mjs) off the guide's own print for that function.
  ALL BUT THE WALK AND THE LAST STEP (by 'Below') IS THE GUIDE's TEMPLATE (howto/template/XProofs.lean) at this function's number and types.
-/
import Derived.Test.Qxb6602922aRows
import Derived.Test.Qxb6602922aCase
import Derived.WalkKit
import Derived.ProofKit
import Derived.OpenShut
import Derived.ShutString
namespace Go.Proofs.Qxb6602922a.fnSameDomainIgnoresASCIICase
open Go.ChangeShapes Go.WideShapes Go.ChangeAt Go.RowKit
open Go.ChangeMaps (open_string shut_string)
set_option linter.unusedVariables false      -- a walk need not use every 'w<i>' (that an integer argument fits its kind)

theorem own : ownKnob Try.prog.godebug = none := by kernel_rfl

/-! ### STEP 1: THE WALK: the Go text returns true. 'Grown w w'': the world has at most new blocks (Derived/RowKit3.lean). Part the cases AHEAD of 'go_enter' where a test parts the walk; take each callee by a contract of your own. -/
theorem bytes_any (a : ByteArray) (ha : a.size ≤ maxLen) (w : World) :
    Calls Try.prog 14 #[.string a] w fun e w' => (∃ r, e = .returned (.bool r)) ∧ w' = w := by
  unfold maxLen at ha
  go_enter Try.func14, Try.ntmps14
  go_wp2
  all_goals (go_ret; exact ⟨⟨_, rfl⟩, rfl⟩)

set_option maxHeartbeats 1000000 in
theorem walk (a0 : ByteArray) (w0 : a0.size ≤ maxLen) (w : World) :
    Calls Try.prog 5 #[.string a0] w fun e w' => e = .returned (.bool true) ∧ Below w.heap.size w w' := by
  by_cases h : a0.size ≤ 524288
  · obtain ⟨up, hup⟩ : ∃ x, x = Plain.casedA true a0 := ⟨_, rfl⟩
    obtain ⟨lo, hlo⟩ : ∃ x, x = Plain.casedA false a0 := ⟨_, rfl⟩
    have wu : up.size ≤ maxLen := by rw [hup, Plain.casedA_size]; exact w0
    have wl : lo.size ≤ maxLen := by rw [hlo, Plain.casedA_size]; exact w0
    have s1 : Plain.same a0 up = true := by rw [hup]; exact Plain.same_cased_right _ _
    have s2 : Plain.same a0 lo = true := by rw [hlo]; exact Plain.same_cased_right _ _
    have s3 : Plain.same up lo = true := by rw [hup, hlo]; exact Plain.same_cased _ _ _
    have s4 : Plain.same lo up = true := by rw [hup, hlo]; exact Plain.same_cased _ _ _
    have cu := fun W => mapCase_any a0 true h W
    have cl := fun W => mapCase_any a0 false h W
    rw [← hup] at cu
    rw [← hlo] at cl
    have CU : Hid _ := cu
    have CL : Hid _ := cl
    clear hup hlo cu cl
    go_enter Try.func5, Try.ntmps5
    go_wp2_with (go_at_call 14; refine (bytes_any _ w0 _).mono ?_; rintro e w' ⟨⟨r, rfl⟩, rfl⟩)
    · go_ret
      exact ⟨rfl, Below.refl _ _⟩
    · refine (CU.out _).mono ?_
      rintro e w1 ⟨rfl, b1⟩
      go_wp2_with fail
      refine (CL.out _).mono ?_
      rintro e w2 ⟨rfl, b2⟩
      have b : Hid _ := b1.trans (b2.mono b1.size)
      clear b1 b2 CU CL
      go_wp2_with (go_at_call 11; refine (zzSame_any _ _ (by assumption) (by assumption) _).mono ?_; rintro e w' ⟨rfl, ⟨n, rfl⟩⟩)
      go_ret
      exact ⟨rfl, by repeat (first | exact b.out | apply below_drewN)⟩
  · have hgt : (524288 : Int) < (a0.size : Int) := by omega
    go_enter Try.func5, Try.ntmps5
    go_wp2_with (go_at_call 14; refine (bytes_any _ w0 _).mono ?_; rintro e w' ⟨⟨r, rfl⟩, rfl⟩)
    all_goals (go_ret; exact ⟨rfl, Below.refl _ _⟩)

/-! ### THE ROW's STEP -/
set_option maxRecDepth 100000 in
theorem lifted (os : Os) (started : os.Started) (H : Type) (enc : TypeId × Value → H) :
    ReturnsInHanded {} Try.checked os 5 .any (Rows.fnSameDomainIgnoresASCIICaseSpec.pre6 enc Try.prog Try.f5 Rows.fnSameDomainIgnoresASCIICaseRow.domain false) (Rows.fnSameDomainIgnoresASCIICaseSpec.post enc Try.prog Try.f5 false true false false) := by
  refine returnsInHanded_of_change (C := Try.checked) own started (by kernel_rfl) Try.func5
    (ChangeSpec.witness6 (enc := enc) (C := Try.checked) false ⟨#[], #[.string ByteArray.empty], []⟩ 8 (by kernel_rfl) (by kernel_rfl) (by kernel_rfl) (by kernel_rfl)) ?_
  intro W base args ds gs before hval0 hW hcnd _
  have hval : ∀ (j : Nat) t v, Try.f5.params[j]? = some t → args[j]? = some v → Value.okWide Try.prog W .any base t v := hval0
  have hW' := hW
  obtain ⟨p, q, hA0, hV, rfl, hfz, hnd⟩ := hW
  have hA : DataW.TrodAll enc Try.prog W 0 (fun _ => true) true Try.f5.params.toList args.toList ds p := hA0
  rw [Try.params5] at hA hval
  obtain ⟨v0, vs0, d0, ds0, p0, q0, hargs, rfl, rfl, h0, r0⟩ := trodAll_cons hA
  obtain ⟨rfl, rfl, rfl⟩ := trodAll_nil r0
  obtain rfl : args = #[v0] := by cases args; simp_all
  obtain ⟨rfl, rfl⟩ := trodVars_none hV
  obtain ⟨a0, rfl, rfl, rfl, w0⟩ := open_string Try.underlying9 (hval 0 9 v0 rfl rfl) h0
  clear hA0 hval0
  simp only [List.append_nil] at hW'
  refine (walk a0 w0 W).mono fun e W' ⟨he, hg⟩ => ?_
  subst he
  exact ⟨_, rfl, _, _, _, [], _, [], hW', trodAll_mk1 (shut_bool Try.underlying4 _), (trodAll_cons_mk (shut_string Try.underlying9 w0) trodAll_mk0), rfl, hg.frame _, fun h => by cases h⟩

theorem over : Rows.fnSameDomainIgnoresASCIICaseRow.holds Try.pinned (OpenSpec.ofChange Rows.fnSameDomainIgnoresASCIICaseSpec) :=
  OpenClaim.holds_of_wide 5 Try.f5 rfl rfl rfl rfl rfl rfl rfl ⟨rfl, rfl, rfl, rfl, rfl⟩ rfl rfl rfl rfl rfl (by kernel_rfl) Try.func5 (by kernel_rfl)
    (of_decide_eq_true (by kernel_rfl)) (by unfold Func.isWrapper; first | (rw [if_pos (by decide +kernel)]; kernel_rfl) | (rw [if_neg (by decide +kernel)]; exact ⟨rfl, rfl⟩))
    (fun os started H enc _ => lifted os started H enc)

/-- ████ THE STATEMENT ████ -/
theorem proved : Rows.FnSameDomainIgnoresASCIICaseSaid :=
  over
end Go.Proofs.Qxb6602922a.fnSameDomainIgnoresASCIICase
