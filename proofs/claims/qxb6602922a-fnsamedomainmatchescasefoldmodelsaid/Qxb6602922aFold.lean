/- THE WALK OF caseFoldEqual (seat b6602922a). -/
import Derived.Test.Qxb6602922aSame
import Derived.Laws.BitsAllLaws
namespace Go.Proofs.Qxb6602922a
open Go.RowKit Plain
set_option linter.unusedVariables false

theorem way_eq (x y : Nat) (h : ((x : Int) == (y : Int)) = true) : low x = low y := by
  have : (x : Int) = (y : Int) := by simpa using h
  have : x = y := by omega
  rw [this]
theorem way_xor (x y : Nat) (hx : x < 256) (hy : y < 256) (h : ((x : Int) == (y : Int)) = false) (g : (bits .xor .u8 (x : Int) (y : Int) != 32) = true) : low x ≠ low y := by
  have h1 : ¬ x = y := by have : ¬ (x : Int) = (y : Int) := by simpa using h
                          omega
  rw [u8_xor_nat x y hx hy] at g
  have g1 : ¬ ((x ^^^ y : Nat) : Int) = 32 := by simpa using g
  have g2 : ¬ (x ^^^ y) = 32 := by omega
  have f := fold_low x y hx
  intro e
  rw [e] at f
  simp [fold, h1, g2] at f
theorem way_or (x y : Nat) (hx : x < 256) (hy : y < 256) (h : ((x : Int) == (y : Int)) = false) (g : bits .or .u8 (x : Int) 32 < 97 ∨ 122 < bits .or .u8 (x : Int) 32) : low x ≠ low y := by
  have h1 : ¬ x = y := by have : ¬ (x : Int) = (y : Int) := by simpa using h
                          omega
  have o : bits .or .u8 (x : Int) 32 = ((x ||| 32 : Nat) : Int) := u8_or_nat x 32 hx (by decide)
  rw [o] at g
  have g2 : ¬ (97 ≤ (x ||| 32) ∧ (x ||| 32) ≤ 122) := by omega
  have f := fold_low x y hx
  intro e
  rw [e] at f
  simp [fold, h1] at f
  exact g2 f.2
theorem way_yes (x y : Nat) (hx : x < 256) (hy : y < 256) (h : (bits .xor .u8 (x : Int) (y : Int) != 32) = false) (g : 97 ≤ bits .or .u8 (x : Int) 32 ∧ bits .or .u8 (x : Int) 32 ≤ 122) : low x = low y := by
  rw [u8_xor_nat x y hx hy] at h
  have o : bits .or .u8 (x : Int) 32 = ((x ||| 32 : Nat) : Int) := u8_or_nat x 32 hx (by decide)
  rw [o] at g
  have h1 : ((x ^^^ y : Nat) : Int) = 32 := by simpa using h
  have h2 : (x ^^^ y) = 32 := by omega
  have g1 : 97 ≤ (x ||| 32) := by omega
  have g2 : (x ||| 32) ≤ 122 := by omega
  have f := fold_low x y hx
  simp [fold, h2, g1, g2] at f
  exact f

set_option maxHeartbeats 400000 in
theorem caseFold_any (a b : ByteArray) (ha : a.size ≤ maxLen) (hb : b.size ≤ maxLen) (w : World) :
    Calls Try.prog 12 #[.string a, .string b] w fun e w' => e = .returned (.bool (same a b)) ∧ w' = w := by
  unfold maxLen at ha hb
  by_cases hs : a.size = b.size
  · have hne : ((a.size : Int) != (b.size : Int)) = false := by simp [hs]
    have H : Hid (a.size = b.size) := hs
    clear hs
    go_enter Try.func12, Try.ntmps12
    go_wp2
    go_loop [5] (fun i => ∃ k : Nat, k ≤ a.size ∧ i = .int .i64 k ∧ (∀ j (_ : j < a.size) (_ : j < b.size), j < k → low a[j].toNat = low b[j].toNat))
      (fun i => a.size - (intOf i).toNat)
    case atStart => exact ⟨0, Nat.zero_le _, rfl, fun j _ _ h => absurd h (by omega)⟩
    case round =>
      obtain ⟨k, hk, rfl, hall⟩ := hrel
      have HA : Hid _ := hall
      clear hall
      by_cases hlt : k < a.size
      · have hltb : k < b.size := by have := H.out; omega
        have hla := lt256 a[k]
        have hlb := lt256 b[k]
        have i1 : (k : Int) < (a.size : Int) := by omega
        have i2 : (k : Int) < (b.size : Int) := by omega
        go_wp2
        · go_round
          case rel => exact ⟨k + 1, by omega, by go_num, low_at a b k HA.out hlt hltb (way_eq _ _ ‹_›)⟩
          case measure => simp [intOf]; omega
        · go_ret
          exact ⟨ret_bool (same_at a b k hlt hltb (way_xor _ _ hla hlb ‹_› ‹_›)).symm, rfl⟩
        · go_ret
          exact ⟨ret_bool (same_at a b k hlt hltb (way_or _ _ hla hlb ‹_› ‹_›)).symm, rfl⟩
        · go_round
          case rel => exact ⟨k + 1, by omega, by go_num, low_at a b k HA.out hlt hltb (way_yes _ _ hla hlb ‹_› ‹_›)⟩
          case measure => simp [intOf]; omega
        · go_ret
          exact ⟨ret_bool (same_at a b k hlt hltb (way_or _ _ hla hlb ‹_› (Or.inl ‹_›))).symm, rfl⟩
      · go_wp2
        go_ret
        exact ⟨ret_bool (same_all a b H.out fun j h1 h2 => HA.out j h1 h2 (by omega)).symm, rfl⟩
  · have hne : ((a.size : Int) != (b.size : Int)) = true := by simp; omega
    have H : Hid (same a b = false) := same_size a b hs
    clear hs
    go_enter Try.func12, Try.ntmps12
    go_wp2
    go_ret
    exact ⟨ret_bool H.out.symm, rfl⟩

end Go.Proofs.Qxb6602922a
