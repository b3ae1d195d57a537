/- THE WALKS OVER A SLICE OF PAIRS THAT CAME IN (seat b6602922a): zzBytes (25, 20), pairsTooBig (21), sortedByName (22). -/
import Derived.Test.Qxb6602922aRows
import Derived.Test.Qxb6602922aPlain3
import Derived.WalkKit
import Derived.WalkSpells
import Derived.WalkLawsBesides
import Derived.Deep.QuietTactic
import Derived.BigQuiet
namespace Go.Proofs.Qxb6602922a
open Go.RowKit Plain
set_option linter.unusedVariables false

/-- the cells of the pairs (N i, V i), i below len, from ⟨b, off⟩ on -/
def Pairs (w : World) (b off len : Nat) (N V : Nat → ByteArray) : Prop :=
  ∀ i, i < len → w.cell? ⟨b, off + i * 2, none⟩ = some (.string (N i)) ∧ w.cell? ⟨b, off + i * 2 + 1, none⟩ = some (.string (V i))

/-- the slice (a, len) holds the pairs (N i, V i) -/
def IsPairs (w : World) (a : Option Addr) (len : Nat) (N V : Nat → ByteArray) : Prop :=
  0 < len → ∃ b off, a = some ⟨b, off, none⟩ ∧ Pairs w b off len N V

/-- it answers one bool, whichever -/
def SomeBool (e : Ending) : Prop := ∃ r, e = .returned (.bool r)

def Short (len : Nat) (N V : Nat → ByteArray) : Prop := ∀ i, i < len → (N i).size ≤ 9223372036854775807 ∧ (V i).size ≤ 9223372036854775807

set_option maxHeartbeats 1000000 in
theorem bytes25_any (a : Option Addr) (len cap : Nat) (nm : ByteArray) (N V : Nat → ByteArray) (w : World) (hl : len ≤ maxLen) (hn : nm.size ≤ maxLen) (hp : IsPairs w a len N V) (hS : Short len N V) :
    Calls Try.prog 25 #[.slice a len cap, .string nm] w fun e w' => SomeBool e ∧ w' = w := by
  unfold maxLen at hl hn
  have HP : Hid _ := hp
  have HS : Hid _ := hS
  clear hp hS
  go_enter Try.func25, Try.ntmps25
  go_wp2
  · go_ret; exact ⟨⟨_, rfl⟩, rfl⟩
  go_loop [5, 6] (fun n i => ∃ k : Nat, ∃ z : Int, k ≤ len ∧ i = .int .i64 k ∧ n = .int .i64 z) (fun _ i => len - (intOf i).toNat)
  case atStart => exact ⟨0, _, Nat.zero_le _, rfl, rfl⟩
  case round =>
    obtain ⟨k, z, hk, rfl, rfl⟩ := hrel
    by_cases hlt : k < len
    · obtain ⟨b, off, rfl, hpp⟩ := HP.out (by omega)
      obtain ⟨c0, c1⟩ := hpp k hlt
      obtain ⟨s0, s1⟩ := HS.out k hlt
      clear hpp
      have i1 : (k : Int) < (len : Int) := by omega
      go_wp2
      · go_ret; exact ⟨⟨_, rfl⟩, rfl⟩
      · go_ret; exact ⟨⟨_, rfl⟩, rfl⟩
      · go_ret; exact ⟨⟨_, rfl⟩, rfl⟩
      · go_ret; exact ⟨⟨_, rfl⟩, rfl⟩
      · go_round
        case rel => exact ⟨k + 1, _, by omega, by go_num, rfl⟩
        case measure => simp [intOf]; omega
    · go_wp2
      all_goals (go_ret; exact ⟨⟨_, rfl⟩, rfl⟩)

set_option maxHeartbeats 1000000 in
theorem bytes20_any (a : Option Addr) (len cap : Nat) (nm : ByteArray) (N V : Nat → ByteArray) (w : World) (hl : len ≤ maxLen) (hn : nm.size ≤ maxLen) (hp : IsPairs w a len N V) (hS : Short len N V) :
    Calls Try.prog 20 #[.slice a len cap, .string nm] w fun e w' => SomeBool e ∧ w' = w := by
  unfold maxLen at hl hn
  have HP : Hid _ := hp
  have HS : Hid _ := hS
  clear hp hS
  go_enter Try.func20, Try.ntmps20
  go_wp2
  · go_ret; exact ⟨⟨_, rfl⟩, rfl⟩
  go_loop [5, 6] (fun n i => ∃ k : Nat, ∃ z : Int, k ≤ len ∧ i = .int .i64 k ∧ n = .int .i64 z) (fun _ i => len - (intOf i).toNat)
  case atStart => exact ⟨0, _, Nat.zero_le _, rfl, rfl⟩
  case round =>
    obtain ⟨k, z, hk, rfl, rfl⟩ := hrel
    by_cases hlt : k < len
    · obtain ⟨b, off, rfl, hpp⟩ := HP.out (by omega)
      obtain ⟨c0, c1⟩ := hpp k hlt
      obtain ⟨s0, s1⟩ := HS.out k hlt
      clear hpp
      have i1 : (k : Int) < (len : Int) := by omega
      go_wp2
      · go_ret; exact ⟨⟨_, rfl⟩, rfl⟩
      · go_ret; exact ⟨⟨_, rfl⟩, rfl⟩
      · go_ret; exact ⟨⟨_, rfl⟩, rfl⟩
      · go_ret; exact ⟨⟨_, rfl⟩, rfl⟩
      · go_round
        case rel => exact ⟨k + 1, _, by omega, by go_num, rfl⟩
        case measure => simp [intOf]; omega
    · go_wp2
      all_goals (go_ret; exact ⟨⟨_, rfl⟩, rfl⟩)

/-- it answers one bool; false only where the slice is short -/
def BoolShort (len : Nat) (e : Ending) : Prop := ∃ r, e = .returned (.bool r) ∧ (r = false → len ≤ 32768)

set_option maxHeartbeats 1000000 in
theorem tooBig_any (a : Option Addr) (len cap : Nat) (nm : ByteArray) (N V : Nat → ByteArray) (w : World) (hl : len ≤ maxLen) (hn : nm.size ≤ maxLen) (hp : IsPairs w a len N V) (hS : Short len N V) :
    Calls Try.prog 21 #[.slice a len cap, .string nm] w fun e w' => BoolShort len e ∧ ∃ n, w' = w.drewN n := by
  unfold maxLen at hl hn
  have HP : Hid _ := hp
  have HS : Hid _ := hS
  clear hp hS
  by_cases hb : len ≤ 32768
  · have HL : Hid _ := hb
    go_enter Try.func21, Try.ntmps21
    go_wp2
    · go_ret; exact ⟨⟨_, rfl, fun _ => HL.out⟩, 0, rfl⟩
    go_loopw [5, 6] (fun n i wr => ∃ k : Nat, ∃ z : Int, k ≤ len ∧ i = .int .i64 k ∧ n = .int .i64 z ∧ ∃ n, wr = w.drewN n) (fun _ i _ => len - (intOf i).toNat)
    case atStart => exact ⟨0, _, Nat.zero_le _, rfl, rfl, 0, rfl⟩
    case round =>
      obtain ⟨k, z, hk, rfl, rfl, n0, hwr⟩ := hrel
      by_cases hlt : k < len
      · obtain ⟨b, off, rfl, hpp⟩ := HP.out (by omega)
        obtain ⟨c0, c1⟩ := hpp k hlt
        obtain ⟨s0, s1⟩ := HS.out k hlt
        have d0 : wr.cell? ⟨b, off + k * 2, none⟩ = some (.string (N k)) := by rw [hwr]; exact c0
        have d1 : wr.cell? ⟨b, off + k * 2 + 1, none⟩ = some (.string (V k)) := by rw [hwr]; exact c1
        have HW : Hid _ := hwr
        clear hpp c0 c1 hwr
        have i1 : (k : Int) < (len : Int) := by omega
        go_wp2_with fail
        · go_ret
          exact ⟨⟨_, rfl, fun _ => HL.out⟩, n0, HW.out⟩
        · go_quiet (fail)
          go_wp2
          · go_ret
            exact ⟨⟨_, rfl, fun _ => HL.out⟩, n0 + nq, by rw [HW.out, World.drewN_drewN]⟩
          · go_roundw
            case rel => exact ⟨k + 1, _, by omega, by go_num, rfl, n0 + nq, by rw [HW.out, World.drewN_drewN]⟩
            case measure => simp [intOf]; omega
        · go_ret
          exact ⟨⟨_, rfl, fun _ => HL.out⟩, n0, HW.out⟩
      · have HW : Hid _ := hwr
        clear hwr
        go_wp2
        go_ret
        exact ⟨⟨_, rfl, fun _ => HL.out⟩, n0, HW.out⟩
  · have i1 : (32768 : Int) < (len : Int) := by omega
    go_enter Try.func21, Try.ntmps21
    go_wp2
    go_ret
    exact ⟨⟨_, rfl, fun h => by cases h⟩, 0, rfl⟩

/-- true exactly where the names are in order -/
def BoolSorted (N : Nat → ByteArray) (len : Nat) (e : Ending) : Prop := ∃ r, e = .returned (.bool r) ∧ (r = true → Sorted N len)

theorem sorted_step {N : Nat → ByteArray} {k : Nat} (h : Sorted N k) (g : Op.bytesLess (N k).toList (N (k - 1)).toList = false) : Sorted N (k + 1) := by
  intro i h1 h2
  by_cases e : i = k
  · subst e; exact g
  · exact h i h1 (by omega)

set_option maxHeartbeats 1000000 in
theorem sorted_any (a : Option Addr) (len cap : Nat) (N V : Nat → ByteArray) (w : World) (hl : len ≤ maxLen) (hp : IsPairs w a len N V) :
    Calls Try.prog 22 #[.slice a len cap] w fun e w' => BoolSorted N len e ∧ ∃ n, w' = w.drewN n := by
  unfold maxLen at hl
  have HP : Hid _ := hp
  clear hp
  go_enter Try.func22, Try.ntmps22
  go_wp2
  go_loopw [3] (fun i wr => ∃ k : Nat, 1 ≤ k ∧ k ≤ len + 1 ∧ i = .int .i64 k ∧ Sorted N k ∧ ∃ n, wr = w.drewN n) (fun i _ => len - (intOf i).toNat)
  case atStart => exact ⟨1, Nat.le_refl _, by omega, rfl, fun i h1 h2 => absurd h1 (by omega), 0, rfl⟩
  case round =>
    obtain ⟨k, hk1, hk, rfl, hso, n0, hwr⟩ := hrel
    have HO : Hid _ := hso
    clear hso
    by_cases hlt : k < len
    · obtain ⟨b, off, rfl, hpp⟩ := HP.out (by omega)
      obtain ⟨c0, _⟩ := hpp k hlt
      obtain ⟨c1, _⟩ := hpp (k - 1) (by omega)
      have d0 : wr.cell? ⟨b, off + k * 2, none⟩ = some (.string (N k)) := by rw [hwr]; exact c0
      have d1 : wr.cell? ⟨b, off + (k - 1) * 2, none⟩ = some (.string (N (k - 1))) := by rw [hwr]; exact c1
      have HW : Hid _ := hwr
      clear hpp c0 c1 hwr
      have i1 : (k : Int) < (len : Int) := by omega
      go_wp2_with fail
      go_quiet (fail)
      go_wp2
      · go_ret
        exact ⟨⟨_, rfl, fun h => by cases h⟩, n0 + nq, by rw [HW.out, World.drewN_drewN]⟩
      · go_roundw
        case rel => exact ⟨k + 1, by omega, by omega, by go_num, sorted_step HO.out ‹_›, n0 + nq, by rw [HW.out, World.drewN_drewN]⟩
        case measure => simp [intOf]; omega
    · have HW : Hid _ := hwr
      clear hwr
      go_wp2
      go_ret
      exact ⟨⟨_, rfl, fun _ i h1 h2 => HO.out i h1 (by omega)⟩, n0, HW.out⟩

end Go.Proofs.Qxb6602922a
