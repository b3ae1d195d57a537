/- THE WALKS OF sameDomain AND WHAT IT CALLS (seat b6602922a). -/
import Derived.Test.Qxb6602922aRows
import Derived.Test.Qxb6602922aPlain
import Derived.WalkKit
import Derived.WalkSpells
import Derived.WalkLawsBesides
import Derived.Deep.QuietTactic
import Derived.BigQuiet
namespace Go.Proofs.Qxb6602922a
open Go.RowKit Plain
set_option linter.unusedVariables false

theorem ret_int {k : IntKind} {a b : Int} (h : a = b) : Ending.returned (.int k a) = .returned (.int k b) := by rw [h]
theorem ret_bool {a b : Bool} (h : a = b) : Ending.returned (.bool a) = .returned (.bool b) := by rw [h]

set_option maxHeartbeats 400000 in
theorem lower_any (c : Nat) (hc : c < 256) (w : World) :
    Calls Try.prog 30 #[.int .u8 (c : Int)] w fun e w' => e = .returned (.int .u8 ((low c : Nat) : Int)) ∧ w' = w := by
  by_cases h1 : 65 ≤ c
  · by_cases h2 : c ≤ 90
    · go_enter Try.func30, Try.ntmps30
      go_wp2
      go_ret
      exact ⟨ret_int (by unfold low; rw [if_pos ⟨h1, h2⟩]; omega), rfl⟩
    · go_enter Try.func30, Try.ntmps30
      go_wp2
      go_ret
      exact ⟨ret_int (by unfold low; rw [if_neg (by omega)]), rfl⟩
  · go_enter Try.func30, Try.ntmps30
    go_wp2
    go_ret
    exact ⟨ret_int (by unfold low; rw [if_neg (by omega)]), rfl⟩

theorem low_at (a b : ByteArray) (k : Nat) (h : ∀ j (_ : j < a.size) (_ : j < b.size), j < k → low a[j].toNat = low b[j].toNat) (ha : k < a.size) (hb : k < b.size)
    (e : low a[k].toNat = low b[k].toNat) : ∀ j (_ : j < a.size) (_ : j < b.size), j < k + 1 → low a[j].toNat = low b[j].toNat := by
  intro j h1 h2 h3
  by_cases hj : j < k
  · exact h j h1 h2 hj
  · have : j = k := by omega
    subst this
    exact e

theorem same_text (a b : ByteArray) (h : (a.toList == b.toList) = true) : same a b = true := by
  have h1 : a.toList = b.toList := by simpa using h
  rw [ByteArray.toList_eq, ByteArray.toList_eq] at h1
  unfold same folds
  rw [h1]; simp

theorem lt256 (c : UInt8) : c.toNat < 256 := c.toNat_lt

set_option maxHeartbeats 400000 in
theorem sameDomain_any (a b : ByteArray) (ha : a.size ≤ maxLen) (hb : b.size ≤ maxLen) (w : World) :
    Calls Try.prog 26 #[.string a, .string b] w fun e w' => e = .returned (.bool (same a b)) ∧ ∃ n, w' = w.drewN n := by
  unfold maxLen at ha hb
  cases hab : (a.toList == b.toList)
  case true =>
    have H : Hid (same a b = true) := same_text a b hab
    go_enter Try.func26, Try.ntmps26
    go_wp2
    go_ret
    exact ⟨ret_bool H.out.symm, 0, rfl⟩
  case false =>
    by_cases hs : a.size = b.size
    · have hne : ((a.size : Int) != (b.size : Int)) = false := by simp [hs]
      have H : Hid (a.size = b.size) := hs
      clear hs
      go_enter Try.func26, Try.ntmps26
      go_wp2
      go_loopw [18] (fun i wr => ∃ k : Nat, k ≤ a.size ∧ i = .int .i64 k ∧ (∀ j (_ : j < a.size) (_ : j < b.size), j < k → low a[j].toNat = low b[j].toNat) ∧ ∃ n, wr = w.drewN n)
        (fun i _ => a.size - (intOf i).toNat)
      case atStart => exact ⟨0, Nat.zero_le _, rfl, fun j _ _ h => absurd h (by omega), 0, rfl⟩
      case round =>
        obtain ⟨k, hk, rfl, hall, hwr⟩ := hrel
        have HA : Hid _ := hall
        have HW : Hid _ := hwr
        clear hall hwr
        by_cases hlt : k < a.size
        · have hltb : k < b.size := by have := H.out; omega
          have hla := lt256 a[k]
          have hlb := lt256 b[k]
          have i1 : (k : Int) < (a.size : Int) := by omega
          have i2 : (k : Int) < (b.size : Int) := by omega
          by_cases hl : low a[k].toNat = low b[k].toNat
          · have hd : (((low a[k].toNat : Nat) : Int) != ((low b[k].toNat : Nat) : Int)) = false := by simp [hl]
            have HL : Hid _ := hl
            clear hl
            go_wp2_with fail
            go_quiet ((go_at_call 30; exact Calls.quiet_of_same (lower_any _ (lt256 _) _)))
            go_wp2
            go_roundw
            case rel => exact ⟨k + 1, by omega, by go_num, low_at a b k HA.out hlt hltb HL.out, by obtain ⟨n, hn⟩ := HW.out; exact ⟨n + nq, by rw [hn, World.drewN_drewN]⟩⟩
            case measure => simp [intOf]; omega
          · have hd : (((low a[k].toNat : Nat) : Int) != ((low b[k].toNat : Nat) : Int)) = true := by simp; omega
            have HL : Hid _ := hl
            clear hl
            go_wp2_with fail
            go_quiet ((go_at_call 30; exact Calls.quiet_of_same (lower_any _ (lt256 _) _)))
            go_wp2
            go_ret
            exact ⟨ret_bool (same_at a b k hlt hltb HL.out).symm, by obtain ⟨n, hn⟩ := HW.out; exact ⟨n + nq, by rw [hn, World.drewN_drewN]⟩⟩
        · go_wp2
          go_ret
          exact ⟨ret_bool (same_all a b H.out fun j h1 h2 => HA.out j h1 h2 (by omega)).symm, HW.out⟩
    · have hne : ((a.size : Int) != (b.size : Int)) = true := by simp; omega
      have H : Hid (same a b = false) := same_size a b hs
      clear hs
      go_enter Try.func26, Try.ntmps26
      go_wp2
      go_ret
      exact ⟨ret_bool H.out.symm, 0, rfl⟩

set_option maxHeartbeats 400000 in
theorem zzSame_any (a b : ByteArray) (ha : a.size ≤ maxLen) (hb : b.size ≤ maxLen) (w : World) :
    Calls Try.prog 11 #[.string a, .string b] w fun e w' => e = .returned (.bool (same a b)) ∧ ∃ n, w' = w.drewN n := by
  go_enter Try.func11, Try.ntmps11
  go_wp2_with (go_at_call 26; refine (sameDomain_any a b ha hb _).mono ?_; rintro e w' ⟨rfl, hw⟩)
  go_ret
  exact ⟨rfl, by assumption⟩

end Go.Proofs.Qxb6602922a
