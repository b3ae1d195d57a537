/- THE WALKS OF SEAT b6603344a: inSetB1 (16), allInSetB1 (9), ValidName (10), ValidAddress (13). -/
import Derived.Test.Qxb6603344aRows
import Derived.Test.Qxb6603344aPlain
import Derived.WalkKit
import Derived.WalkSpells
import Derived.WalkLawsBesides
import Derived.Laws.IdiomStrings
namespace Go.Proofs.Qxb6603344a
open Go.RowKit Plain
set_option linter.unusedVariables false

theorem ret_bool {a b : Bool} (h : a = b) : Ending.returned (.bool a) = .returned (.bool b) := by rw [h]

set_option maxHeartbeats 400000 in
theorem inSet_any (c : Nat) (set : ByteArray) (hs : set.size ≤ maxLen) (w : World) :
    Calls Try.prog 16 #[.int .u8 (c : Int), .string set] w fun e w' => e = .returned (.bool (inSet set c)) ∧ w' = w := by
  unfold maxLen at hs
  go_enter Try.func16, Try.ntmps16
  go_wp2
  go_loop [5] (fun i => ∃ k : Nat, k ≤ set.size ∧ i = .int .i64 k ∧ (∀ j (_ : j < set.size), j < k → ¬ set[j].toNat = c))
    (fun i => set.size - (intOf i).toNat)
  case atStart => exact ⟨0, Nat.zero_le _, rfl, fun j _ h => absurd h (by omega)⟩
  case round =>
    obtain ⟨k, hk, rfl, hall⟩ := hrel
    have HA : Hid _ := hall
    clear hall
    by_cases hlt : k < set.size
    · have i1 : (k : Int) < (set.size : Int) := by omega
      go_wp2
      · have h : ((set[k].toNat : Int) == (c : Int)) = true := by assumption
        have h1 : (set[k].toNat : Int) = (c : Int) := by simpa using h
        go_ret
        exact ⟨ret_bool (inSet_at set c k hlt (by omega)).symm, rfl⟩
      · have h : ((set[k].toNat : Int) == (c : Int)) = false := by assumption
        have h1 : ¬ (set[k].toNat : Int) = (c : Int) := by simpa using h
        go_round
        case rel =>
          refine ⟨k + 1, by omega, by go_num, fun j hj hk1 => ?_⟩
          by_cases hjk : j < k
          · exact HA.out j hj hjk
          · have e : j = k := by omega
            subst e
            omega
        case measure => simp [intOf]; omega
    · go_wp2
      go_ret
      exact ⟨ret_bool (inSet_none set c fun j hj => HA.out j hj (by omega)).symm, rfl⟩

theorem run_step {p : Nat → Bool} {s : ByteArray} {k : Nat} (h : ∀ j (_ : j < s.size), j < k → p s[j].toNat = true) (hk : k < s.size) (g : p s[k].toNat = true) :
    ∀ j (_ : j < s.size), j < k + 1 → p s[j].toNat = true := by
  intro j hj h1
  by_cases hjk : j < k
  · exact h j hj hjk
  · have e : j = k := by omega
    subst e
    exact g

set_option maxHeartbeats 400000 in
theorem allIn_any (s set : ByteArray) (hs : s.size ≤ maxLen) (ht : set.size ≤ maxLen) (w : World) :
    Calls Try.prog 9 #[.string s, .string set] w fun e w' => e = .returned (.bool (every (inSet set) s)) ∧ w' = w := by
  unfold maxLen at hs
  go_enter Try.func9, Try.ntmps9
  go_wp2
  go_loop [5] (fun i => ∃ k : Nat, k ≤ s.size ∧ i = .int .i64 k ∧ (∀ j (_ : j < s.size), j < k → inSet set s[j].toNat = true))
    (fun i => s.size - (intOf i).toNat)
  case atStart => exact ⟨0, Nat.zero_le _, rfl, fun j _ h => absurd h (by omega)⟩
  case round =>
    obtain ⟨k, hk, rfl, hall⟩ := hrel
    have HA : Hid _ := hall
    clear hall
    by_cases hlt : k < s.size
    · have i1 : (k : Int) < (s.size : Int) := by omega
      cases hin : inSet set s[k].toNat
      case false =>
        go_wp2_with (go_at_call 16; refine (inSet_any _ set ht _).mono ?_; rintro e w' ⟨rfl, rfl⟩)
        go_ret
        exact ⟨ret_bool (every_at _ s k hlt hin).symm, rfl⟩
      case true =>
        go_wp2_with (go_at_call 16; refine (inSet_any _ set ht _).mono ?_; rintro e w' ⟨rfl, rfl⟩)
        go_round
        case rel => exact ⟨k + 1, by omega, by go_num, run_step HA.out hlt hin⟩
        case measure => simp [intOf]; omega
    · go_wp2
      go_ret
      exact ⟨ret_bool (every_all _ s fun j hj => HA.out j hj (by omega)).symm, rfl⟩

theorem conv_bytes (s : ByteArray) (w : World) : ∃ w1 cap, (convert 9 25 (.string s)).run Try.prog w = .ok (.slice (some ⟨w.heap.size, 0, none⟩) s.size cap) w1 ∧
    (∀ k (_ : k < s.size), w1.cell? ⟨w.heap.size, k, none⟩ = some (.int .u8 (s[k].toNat : Int))) ∧ Below w.heap.size w w1 := by
  refine ⟨_, _, run_bytes_of_string w 9 25 5 s Try.underlying9 Try.underlying25 Try.underlying5, ?_, ?_⟩
  · intro k hk
    have := World.cell?_alloc_mark w.drew (bytesRow s (grownCap w s.size 0 5)) 5 ((bytesRow s (grownCap w s.size 0 5)).size, (bytesRow s (grownCap w s.size 0 5)).size + 1) k
    refine this.trans ?_
    have h1 : k < (s.data.map (fun b => Value.int .u8 b.toNat)).size := by simpa using hk
    unfold bytesRow
    rw [Array.getElem?_append_left h1]
    rw [Array.getElem?_eq_getElem h1]
    simp
    rfl
  · exact ((Below.refl _ _).drew).alloc (Nat.le_refl _) _

theorem name_yes {c : Nat} (h : nameB c = true) : (97 ≤ c ∧ c ≤ 122) ∨ (65 ≤ c ∧ c ≤ 90) ∨ (48 ≤ c ∧ c ≤ 57) ∨ (46 ≤ c ∧ c ≤ 46) ∨ (95 ≤ c ∧ c ≤ 95) ∨ (45 ≤ c ∧ c ≤ 45) := by
  simp only [nameB, decide_eq_true_eq] at h; omega
theorem name_no {c : Nat} (h : nameB c = false) : (0 ≤ c ∧ c ≤ 44) ∨ (47 ≤ c ∧ c ≤ 47) ∨ (58 ≤ c ∧ c ≤ 64) ∨ (91 ≤ c ∧ c ≤ 94) ∨ (96 ≤ c ∧ c ≤ 96) ∨ (123 ≤ c ∧ 0 ≤ c) := by
  simp only [nameB, decide_eq_false_iff_not] at h; omega
theorem addr_yes {c : Nat} (h : addrB c = true) : (33 ≤ c ∧ c ≤ 43) ∨ (45 ≤ c ∧ c ≤ 126) := by
  simp only [addrB, decide_eq_true_eq] at h; omega
theorem addr_no {c : Nat} (h : addrB c = false) : (0 ≤ c ∧ c ≤ 32) ∨ (44 ≤ c ∧ c ≤ 44) ∨ (127 ≤ c ∧ 0 ≤ c) := by
  simp only [addrB, decide_eq_false_iff_not] at h; omega

set_option maxHeartbeats 4000000 in
theorem validName_any (s : ByteArray) (hs : s.size ≤ maxLen) (w : World) :
    Calls Try.prog 10 #[.string s] w fun e w' => e = .returned (.bool (validName s)) ∧ Below w.heap.size w w' := by
  unfold maxLen at hs
  by_cases h0 : s.size = 0
  · have H : Hid (validName s = false) := by simp [Hid, validName, h0]
    have e0 : ((s.size : Int) == 0) = true := by simp [h0]
    clear h0
    go_enter Try.func10, Try.ntmps10
    go_wp2
    go_ret
    exact ⟨ret_bool H.out.symm, Below.refl _ _⟩
  · have e0 : ((s.size : Int) == 0) = false := by rw [beq_eq_false_iff_ne]; omega
    by_cases h1 : s.size ≤ 64
    · obtain ⟨w1, cap, hconv, hcells, hbel⟩ := conv_bytes s w
      have h2 : 1 ≤ s.size := by omega
      have H : Hid (validName s = every nameB s) := by simp [Hid, validName, h1, h2]
      have HB : Hid (Below w.heap.size w w1) := hbel
      clear hbel h0
      go_enter Try.func10, Try.ntmps10
      go_wp2
      go_loop [16] (fun i => ∃ k : Nat, k ≤ s.size ∧ i = .int .i64 k ∧ (∀ j (_ : j < s.size), j < k → nameB s[j].toNat = true))
        (fun i => s.size - (intOf i).toNat)
      case atStart => exact ⟨0, Nat.zero_le _, rfl, fun j _ h => absurd h (by omega)⟩
      case round =>
        obtain ⟨k, hk, rfl, hall⟩ := hrel
        have HA : Hid _ := hall
        clear hall hconv
        by_cases hlt : k < s.size
        · have i1 : (k : Int) < (s.size : Int) := by omega
          have hc := hcells k hlt
          clear hcells
          cases hn : nameB s[k].toNat
          case true =>
            have hN : Hid (nameB s[k].toNat = true) := hn
            clear hn
            rcases name_yes hN.out with ⟨g1, g2⟩ | ⟨g1, g2⟩ | ⟨g1, g2⟩ | ⟨g1, g2⟩ | ⟨g1, g2⟩ | ⟨g1, g2⟩
            · have t0 : (97 : Int) ≤ (s[k].toNat : Int) := by omega
              have t1 : (s[k].toNat : Int) ≤ 122 := by omega
              have t2 : (65 : Int) ≤ (s[k].toNat : Int) := by omega
              have t3 : ¬ (s[k].toNat : Int) ≤ 90 := by omega
              have t4 : (48 : Int) ≤ (s[k].toNat : Int) := by omega
              have t5 : ¬ (s[k].toNat : Int) ≤ 57 := by omega
              have t6 : ((s[k].toNat : Int) == 46) = false := by simp; omega
              have t7 : ((s[k].toNat : Int) == 95) = false := by simp; omega
              have t8 : ((s[k].toNat : Int) == 45) = false := by simp; omega
              go_wp2
              go_round
              case rel => exact ⟨k + 1, by omega, by go_num, run_step HA.out hlt hN.out⟩
              case measure => simp [intOf]; omega
            · have t0 : ¬ (97 : Int) ≤ (s[k].toNat : Int) := by omega
              have t1 : (s[k].toNat : Int) ≤ 122 := by omega
              have t2 : (65 : Int) ≤ (s[k].toNat : Int) := by omega
              have t3 : (s[k].toNat : Int) ≤ 90 := by omega
              have t4 : (48 : Int) ≤ (s[k].toNat : Int) := by omega
              have t5 : ¬ (s[k].toNat : Int) ≤ 57 := by omega
              have t6 : ((s[k].toNat : Int) == 46) = false := by simp; omega
              have t7 : ((s[k].toNat : Int) == 95) = false := by simp; omega
              have t8 : ((s[k].toNat : Int) == 45) = false := by simp; omega
              go_wp2
              go_round
              case rel => exact ⟨k + 1, by omega, by go_num, run_step HA.out hlt hN.out⟩
              case measure => simp [intOf]; omega
            · have t0 : ¬ (97 : Int) ≤ (s[k].toNat : Int) := by omega
              have t1 : (s[k].toNat : Int) ≤ 122 := by omega
              have t2 : ¬ (65 : Int) ≤ (s[k].toNat : Int) := by omega
              have t3 : (s[k].toNat : Int) ≤ 90 := by omega
              have t4 : (48 : Int) ≤ (s[k].toNat : Int) := by omega
              have t5 : (s[k].toNat : Int) ≤ 57 := by omega
              have t6 : ((s[k].toNat : Int) == 46) = false := by simp; omega
              have t7 : ((s[k].toNat : Int) == 95) = false := by simp; omega
              have t8 : ((s[k].toNat : Int) == 45) = false := by simp; omega
              go_wp2
              go_round
              case rel => exact ⟨k + 1, by omega, by go_num, run_step HA.out hlt hN.out⟩
              case measure => simp [intOf]; omega
            · have t0 : ¬ (97 : Int) ≤ (s[k].toNat : Int) := by omega
              have t1 : (s[k].toNat : Int) ≤ 122 := by omega
              have t2 : ¬ (65 : Int) ≤ (s[k].toNat : Int) := by omega
              have t3 : (s[k].toNat : Int) ≤ 90 := by omega
              have t4 : ¬ (48 : Int) ≤ (s[k].toNat : Int) := by omega
              have t5 : (s[k].toNat : Int) ≤ 57 := by omega
              have t6 : ((s[k].toNat : Int) == 46) = true := by simp; omega
              have t7 : ((s[k].toNat : Int) == 95) = false := by simp; omega
              have t8 : ((s[k].toNat : Int) == 45) = false := by simp; omega
              go_wp2
              go_round
              case rel => exact ⟨k + 1, by omega, by go_num, run_step HA.out hlt hN.out⟩
              case measure => simp [intOf]; omega
            · have t0 : ¬ (97 : Int) ≤ (s[k].toNat : Int) := by omega
              have t1 : (s[k].toNat : Int) ≤ 122 := by omega
              have t2 : (65 : Int) ≤ (s[k].toNat : Int) := by omega
              have t3 : ¬ (s[k].toNat : Int) ≤ 90 := by omega
              have t4 : (48 : Int) ≤ (s[k].toNat : Int) := by omega
              have t5 : ¬ (s[k].toNat : Int) ≤ 57 := by omega
              have t6 : ((s[k].toNat : Int) == 46) = false := by simp; omega
              have t7 : ((s[k].toNat : Int) == 95) = true := by simp; omega
              have t8 : ((s[k].toNat : Int) == 45) = false := by simp; omega
              go_wp2
              go_round
              case rel => exact ⟨k + 1, by omega, by go_num, run_step HA.out hlt hN.out⟩
              case measure => simp [intOf]; omega
            · have t0 : ¬ (97 : Int) ≤ (s[k].toNat : Int) := by omega
              have t1 : (s[k].toNat : Int) ≤ 122 := by omega
              have t2 : ¬ (65 : Int) ≤ (s[k].toNat : Int) := by omega
              have t3 : (s[k].toNat : Int) ≤ 90 := by omega
              have t4 : ¬ (48 : Int) ≤ (s[k].toNat : Int) := by omega
              have t5 : (s[k].toNat : Int) ≤ 57 := by omega
              have t6 : ((s[k].toNat : Int) == 46) = false := by simp; omega
              have t7 : ((s[k].toNat : Int) == 95) = false := by simp; omega
              have t8 : ((s[k].toNat : Int) == 45) = true := by simp; omega
              go_wp2
              go_round
              case rel => exact ⟨k + 1, by omega, by go_num, run_step HA.out hlt hN.out⟩
              case measure => simp [intOf]; omega
          case false =>
            have hN : Hid (nameB s[k].toNat = false) := hn
            clear hn
            rcases name_no hN.out with ⟨g1, g2⟩ | ⟨g1, g2⟩ | ⟨g1, g2⟩ | ⟨g1, g2⟩ | ⟨g1, g2⟩ | ⟨g1, g2⟩
            · have t0 : ¬ (97 : Int) ≤ (s[k].toNat : Int) := by omega
              have t1 : (s[k].toNat : Int) ≤ 122 := by omega
              have t2 : ¬ (65 : Int) ≤ (s[k].toNat : Int) := by omega
              have t3 : (s[k].toNat : Int) ≤ 90 := by omega
              have t4 : ¬ (48 : Int) ≤ (s[k].toNat : Int) := by omega
              have t5 : (s[k].toNat : Int) ≤ 57 := by omega
              have t6 : ((s[k].toNat : Int) == 46) = false := by simp; omega
              have t7 : ((s[k].toNat : Int) == 95) = false := by simp; omega
              have t8 : ((s[k].toNat : Int) == 45) = false := by simp; omega
              go_wp2
              go_ret
              exact ⟨ret_bool (H.out.trans (every_at _ s k hlt hN.out)).symm, HB.out⟩
            · have t0 : ¬ (97 : Int) ≤ (s[k].toNat : Int) := by omega
              have t1 : (s[k].toNat : Int) ≤ 122 := by omega
              have t2 : ¬ (65 : Int) ≤ (s[k].toNat : Int) := by omega
              have t3 : (s[k].toNat : Int) ≤ 90 := by omega
              have t4 : ¬ (48 : Int) ≤ (s[k].toNat : Int) := by omega
              have t5 : (s[k].toNat : Int) ≤ 57 := by omega
              have t6 : ((s[k].toNat : Int) == 46) = false := by simp; omega
              have t7 : ((s[k].toNat : Int) == 95) = false := by simp; omega
              have t8 : ((s[k].toNat : Int) == 45) = false := by simp; omega
              go_wp2
              go_ret
              exact ⟨ret_bool (H.out.trans (every_at _ s k hlt hN.out)).symm, HB.out⟩
            · have t0 : ¬ (97 : Int) ≤ (s[k].toNat : Int) := by omega
              have t1 : (s[k].toNat : Int) ≤ 122 := by omega
              have t2 : ¬ (65 : Int) ≤ (s[k].toNat : Int) := by omega
              have t3 : (s[k].toNat : Int) ≤ 90 := by omega
              have t4 : (48 : Int) ≤ (s[k].toNat : Int) := by omega
              have t5 : ¬ (s[k].toNat : Int) ≤ 57 := by omega
              have t6 : ((s[k].toNat : Int) == 46) = false := by simp; omega
              have t7 : ((s[k].toNat : Int) == 95) = false := by simp; omega
              have t8 : ((s[k].toNat : Int) == 45) = false := by simp; omega
              go_wp2
              go_ret
              exact ⟨ret_bool (H.out.trans (every_at _ s k hlt hN.out)).symm, HB.out⟩
            · have t0 : ¬ (97 : Int) ≤ (s[k].toNat : Int) := by omega
              have t1 : (s[k].toNat : Int) ≤ 122 := by omega
              have t2 : (65 : Int) ≤ (s[k].toNat : Int) := by omega
              have t3 : ¬ (s[k].toNat : Int) ≤ 90 := by omega
              have t4 : (48 : Int) ≤ (s[k].toNat : Int) := by omega
              have t5 : ¬ (s[k].toNat : Int) ≤ 57 := by omega
              have t6 : ((s[k].toNat : Int) == 46) = false := by simp; omega
              have t7 : ((s[k].toNat : Int) == 95) = false := by simp; omega
              have t8 : ((s[k].toNat : Int) == 45) = false := by simp; omega
              go_wp2
              go_ret
              exact ⟨ret_bool (H.out.trans (every_at _ s k hlt hN.out)).symm, HB.out⟩
            · have t0 : ¬ (97 : Int) ≤ (s[k].toNat : Int) := by omega
              have t1 : (s[k].toNat : Int) ≤ 122 := by omega
              have t2 : (65 : Int) ≤ (s[k].toNat : Int) := by omega
              have t3 : ¬ (s[k].toNat : Int) ≤ 90 := by omega
              have t4 : (48 : Int) ≤ (s[k].toNat : Int) := by omega
              have t5 : ¬ (s[k].toNat : Int) ≤ 57 := by omega
              have t6 : ((s[k].toNat : Int) == 46) = false := by simp; omega
              have t7 : ((s[k].toNat : Int) == 95) = false := by simp; omega
              have t8 : ((s[k].toNat : Int) == 45) = false := by simp; omega
              go_wp2
              go_ret
              exact ⟨ret_bool (H.out.trans (every_at _ s k hlt hN.out)).symm, HB.out⟩
            · have t0 : (97 : Int) ≤ (s[k].toNat : Int) := by omega
              have t1 : ¬ (s[k].toNat : Int) ≤ 122 := by omega
              have t2 : (65 : Int) ≤ (s[k].toNat : Int) := by omega
              have t3 : ¬ (s[k].toNat : Int) ≤ 90 := by omega
              have t4 : (48 : Int) ≤ (s[k].toNat : Int) := by omega
              have t5 : ¬ (s[k].toNat : Int) ≤ 57 := by omega
              have t6 : ((s[k].toNat : Int) == 46) = false := by simp; omega
              have t7 : ((s[k].toNat : Int) == 95) = false := by simp; omega
              have t8 : ((s[k].toNat : Int) == 45) = false := by simp; omega
              go_wp2
              go_ret
              exact ⟨ret_bool (H.out.trans (every_at _ s k hlt hN.out)).symm, HB.out⟩
        · go_wp2
          go_ret
          exact ⟨ret_bool (H.out.trans (every_all _ s fun j hj => HA.out j hj (by omega))).symm, HB.out⟩
    · have H : Hid (validName s = false) := by simp [Hid, validName, h1]
      go_enter Try.func10, Try.ntmps10
      go_wp2
      go_ret
      exact ⟨ret_bool H.out.symm, Below.refl _ _⟩

set_option maxHeartbeats 4000000 in
theorem validAddr_any (s : ByteArray) (hs : s.size ≤ maxLen) (w : World) :
    Calls Try.prog 13 #[.string s] w fun e w' => e = .returned (.bool (validAddr s)) ∧ Below w.heap.size w w' := by
  unfold maxLen at hs
  by_cases h0 : s.size = 0
  · have H : Hid (validAddr s = false) := by simp [Hid, validAddr, h0]
    have e0 : ((s.size : Int) == 0) = true := by simp [h0]
    clear h0
    go_enter Try.func13, Try.ntmps13
    go_wp2
    go_ret
    exact ⟨ret_bool H.out.symm, Below.refl _ _⟩
  · have e0 : ((s.size : Int) == 0) = false := by rw [beq_eq_false_iff_ne]; omega
    by_cases h1 : s.size ≤ 1024
    · obtain ⟨w1, cap, hconv, hcells, hbel⟩ := conv_bytes s w
      have h2 : 1 ≤ s.size := by omega
      have H : Hid (validAddr s = every addrB s) := by simp [Hid, validAddr, h1, h2]
      have HB : Hid (Below w.heap.size w w1) := hbel
      clear hbel h0
      go_enter Try.func13, Try.ntmps13
      go_wp2
      go_loop [16] (fun i => ∃ k : Nat, k ≤ s.size ∧ i = .int .i64 k ∧ (∀ j (_ : j < s.size), j < k → addrB s[j].toNat = true))
        (fun i => s.size - (intOf i).toNat)
      case atStart => exact ⟨0, Nat.zero_le _, rfl, fun j _ h => absurd h (by omega)⟩
      case round =>
        obtain ⟨k, hk, rfl, hall⟩ := hrel
        have HA : Hid _ := hall
        clear hall hconv
        by_cases hlt : k < s.size
        · have i1 : (k : Int) < (s.size : Int) := by omega
          have hc := hcells k hlt
          clear hcells
          cases hn : addrB s[k].toNat
          case true =>
            have hN : Hid (addrB s[k].toNat = true) := hn
            clear hn
            rcases addr_yes hN.out with ⟨g1, g2⟩ | ⟨g1, g2⟩
            · have t0 : ¬ (s[k].toNat : Int) ≤ 32 := by omega
              have t1 : ¬ (126 : Int) < (s[k].toNat : Int) := by omega
              have t2 : ((s[k].toNat : Int) == 44) = false := by simp; omega
              go_wp2
              go_round
              case rel => exact ⟨k + 1, by omega, by go_num, run_step HA.out hlt hN.out⟩
              case measure => simp [intOf]; omega
            · have t0 : ¬ (s[k].toNat : Int) ≤ 32 := by omega
              have t1 : ¬ (126 : Int) < (s[k].toNat : Int) := by omega
              have t2 : ((s[k].toNat : Int) == 44) = false := by simp; omega
              go_wp2
              go_round
              case rel => exact ⟨k + 1, by omega, by go_num, run_step HA.out hlt hN.out⟩
              case measure => simp [intOf]; omega
          case false =>
            have hN : Hid (addrB s[k].toNat = false) := hn
            clear hn
            rcases addr_no hN.out with ⟨g1, g2⟩ | ⟨g1, g2⟩ | ⟨g1, g2⟩
            · have t0 : (s[k].toNat : Int) ≤ 32 := by omega
              have t1 : ¬ (126 : Int) < (s[k].toNat : Int) := by omega
              have t2 : ((s[k].toNat : Int) == 44) = false := by simp; omega
              go_wp2
              go_ret
              exact ⟨ret_bool (H.out.trans (every_at _ s k hlt hN.out)).symm, HB.out⟩
            · have t0 : ¬ (s[k].toNat : Int) ≤ 32 := by omega
              have t1 : ¬ (126 : Int) < (s[k].toNat : Int) := by omega
              have t2 : ((s[k].toNat : Int) == 44) = true := by simp; omega
              go_wp2
              go_ret
              exact ⟨ret_bool (H.out.trans (every_at _ s k hlt hN.out)).symm, HB.out⟩
            · have t0 : ¬ (s[k].toNat : Int) ≤ 32 := by omega
              have t1 : (126 : Int) < (s[k].toNat : Int) := by omega
              have t2 : ((s[k].toNat : Int) == 44) = false := by simp; omega
              go_wp2
              go_ret
              exact ⟨ret_bool (H.out.trans (every_at _ s k hlt hN.out)).symm, HB.out⟩
        · go_wp2
          go_ret
          exact ⟨ret_bool (H.out.trans (every_all _ s fun j hj => HA.out j hj (by omega))).symm, HB.out⟩
    · have H : Hid (validAddr s = false) := by simp [Hid, validAddr, h1]
      go_enter Try.func13, Try.ntmps13
      go_wp2
      go_ret
      exact ⟨ret_bool H.out.symm, Below.refl _ _⟩

end Go.Proofs.Qxb6603344a
