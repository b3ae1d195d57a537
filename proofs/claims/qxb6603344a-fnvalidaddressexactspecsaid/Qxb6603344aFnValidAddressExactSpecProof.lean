/-
  THE PROOF OF 'Rows.FnValidAddressExactSpecSaid' ('example.com/pactum/pactum/zzlaws_internal_txlog_b1.FnValidAddressExactSpec'), WRITTEN BY PROGRAM (proof-skeleton.mjs) off the guide's own print for that function.
  ALL BUT THE WALK AND THE LAST STEP (by 'Below': the walk makes memory that bears a mark) IS THE GUIDE's TEMPLATE (howto/template/XProofs.lean) at this function's number and types.
-/
import Derived.Test.Qxb6603344aRows
import Derived.Test.Qxb6603344aSpec
import Derived.WalkKit
import Derived.ProofKit
import Derived.OpenShut
import Derived.ShutString
namespace Go.Proofs.Qxb6603344a.fnValidAddressExactSpec
open Go.ChangeShapes Go.WideShapes Go.ChangeAt Go.RowKit
open Go.ChangeMaps (open_string shut_string)
set_option linter.unusedVariables false      -- a walk need not use every 'w<i>' (that an integer argument fits its kind)

theorem own : ownKnob Try.prog.godebug = none := by kernel_rfl

/-! ### STEP 1: THE WALK: the Go text returns true. 'Grown w w'': the world has at most new blocks (Derived/RowKit3.lean). Part the cases AHEAD of 'go_enter' where a test parts the walk; take each callee by a contract of your own. -/
theorem bytes_any (a : ByteArray) (ha : a.size ≤ maxLen) (w : World) :
    Calls Try.prog 14 #[.string a] w fun e w' => (∃ r, e = .returned (.bool r)) ∧ w' = w := by
  unfold maxLen at ha
  go_enter Try.func14, Try.ntmps14
  go_wp2
  all_goals (go_ret; exact ⟨⟨_, rfl⟩, rfl⟩)

set_option maxHeartbeats 2000000 in
theorem walk (a0 : ByteArray) (w0 : a0.size ≤ maxLen) (w : World) :
    Calls Try.prog 6 #[.string a0] w fun e w' => e = .returned (.bool true) ∧ Below w.heap.size w w' := by
  by_cases h1 : 1 ≤ a0.size
  · by_cases h2 : a0.size ≤ 1024
    · have hm := addr_mid a0 h1 h2
      have i1 : (1 : Int) ≤ (a0.size : Int) := by omega
      have i2 : (a0.size : Int) ≤ 1024 := by omega
      cases he : Plain.every Plain.addrB a0
      all_goals
        rw [he] at hm
        go_enter Try.func6, Try.ntmps6
        go_wp2_with (first
          | (go_at_call 14; refine (bytes_any _ w0 _).mono ?_; rintro e w' ⟨⟨r, rfl⟩, rfl⟩)
          | (go_at_call 9; refine (allIn_as Plain.addrB _ _ w0 (by decide +kernel) (by decide +kernel) _).mono ?_; rintro e w1 ⟨rfl, rfl⟩)
          | (go_at_call 13; refine (validAddr_any _ w0 _).mono ?_; rintro e w2 ⟨rfl, hb⟩))
        all_goals (go_ret; exact ⟨rfl, by first | exact Below.refl _ _ | assumption⟩)
    · have hm := addr_long a0 h2
      have i1 : (1 : Int) ≤ (a0.size : Int) := by omega
      have i2 : ¬ (a0.size : Int) ≤ 1024 := by omega
      go_enter Try.func6, Try.ntmps6
      go_wp2_with (first
        | (go_at_call 14; refine (bytes_any _ w0 _).mono ?_; rintro e w' ⟨⟨r, rfl⟩, rfl⟩)
        | (go_at_call 13; refine (validAddr_any _ w0 _).mono ?_; rintro e w2 ⟨rfl, hb⟩))
      all_goals (go_ret; exact ⟨rfl, by first | exact Below.refl _ _ | assumption⟩)
  · have hm := addr_short a0 h1
    have i1 : ¬ (1 : Int) ≤ (a0.size : Int) := by omega
    go_enter Try.func6, Try.ntmps6
    go_wp2_with (first
      | (go_at_call 14; refine (bytes_any _ w0 _).mono ?_; rintro e w' ⟨⟨r, rfl⟩, rfl⟩)
      | (go_at_call 13; refine (validAddr_any _ w0 _).mono ?_; rintro e w2 ⟨rfl, hb⟩))
    all_goals (go_ret; exact ⟨rfl, by first | exact Below.refl _ _ | assumption⟩)

/-! ### THE ROW's STEP -/
set_option maxRecDepth 100000 in
theorem lifted (os : Os) (started : os.Started) (H : Type) (enc : TypeId × Value → H) :
    ReturnsInHanded {} Try.checked os 6 .any (Rows.fnValidAddressExactSpecSpec.pre6 enc Try.prog Try.f6 Rows.fnValidAddressExactSpecRow.domain false) (Rows.fnValidAddressExactSpecSpec.post enc Try.prog Try.f6 false true false false) := by
  refine returnsInHanded_of_change (C := Try.checked) own started (by kernel_rfl) Try.func6
    (ChangeSpec.witness6 (enc := enc) (C := Try.checked) false ⟨#[], #[.string ByteArray.empty], []⟩ 8 (by kernel_rfl) (by kernel_rfl) (by kernel_rfl) (by kernel_rfl)) ?_
  intro W base args ds gs before hval0 hW hcnd _
  have hval : ∀ (j : Nat) t v, Try.f6.params[j]? = some t → args[j]? = some v → Value.okWide Try.prog W .any base t v := hval0
  have hW' := hW
  obtain ⟨p, q, hA0, hV, rfl, hfz, hnd⟩ := hW
  have hA : DataW.TrodAll enc Try.prog W 0 (fun _ => true) true Try.f6.params.toList args.toList ds p := hA0
  rw [Try.params6] at hA hval
  obtain ⟨v0, vs0, d0, ds0, p0, q0, hargs, rfl, rfl, h0, r0⟩ := trodAll_cons hA
  obtain ⟨rfl, rfl, rfl⟩ := trodAll_nil r0
  obtain rfl : args = #[v0] := by cases args; simp_all
  obtain ⟨rfl, rfl⟩ := trodVars_none hV
  obtain ⟨a0, rfl, rfl, rfl, w0⟩ := open_string Try.underlying9 (hval 0 9 v0 rfl rfl) h0
  clear hA0 hval0
  simp only [List.append_nil] at hW'
  refine (walk a0 w0 W).mono fun e W' ⟨he, hg⟩ => ?_
  subst he
  exact ⟨_, rfl, _, _, _, [], _, [], hW', trodAll_mk1 (shut_bool Try.underlying4 _), (trodAll_cons_mk (shut_string Try.underlying9 w0) trodAll_mk0), rfl, hg.frame _, fun h => by cases h⟩

theorem over : Rows.fnValidAddressExactSpecRow.holds Try.pinned (OpenSpec.ofChange Rows.fnValidAddressExactSpecSpec) :=
  OpenClaim.holds_of_wide 6 Try.f6 rfl rfl rfl rfl rfl rfl rfl ⟨rfl, rfl, rfl, rfl, rfl⟩ rfl rfl rfl rfl rfl (by kernel_rfl) Try.func6 (by kernel_rfl)
    (of_decide_eq_true (by kernel_rfl)) (by unfold Func.isWrapper; first | (rw [if_pos (by decide +kernel)]; kernel_rfl) | (rw [if_neg (by decide +kernel)]; exact ⟨rfl, rfl⟩))
    (fun os started H enc _ => lifted os started H enc)

/-- ████ THE STATEMENT ████ -/
theorem proved : Rows.FnValidAddressExactSpecSaid :=
  over
end Go.Proofs.Qxb6603344a.fnValidAddressExactSpec
