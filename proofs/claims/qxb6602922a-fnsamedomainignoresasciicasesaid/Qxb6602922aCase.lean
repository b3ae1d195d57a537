/- THE WALK OF mapASCIICase (15) (seat b6602922a). -/
import Derived.Test.Qxb6602922aSame
import Derived.Test.Qxb6602922aPlain2
import Derived.Deep.OwnRows
import Derived.Laws.IdiomStrings
namespace Go.Proofs.Qxb6602922a
open Go.RowKit Plain
set_option linter.unusedVariables false

theorem info5 : (Try.prog.info? 5).map (fun i => (i.zero, i.size, i.bytes)) = some (some (.int .u8 0), 1, 1) := by kernel_rfl

theorem make_bytes (n : Nat) (hn : n ≤ 524288) (w : World) : ∃ w1, (Instr.makeSlice 34 (.int .i64 (n : Int)) (.int .i64 (n : Int))).run Try.prog w = .ok (.slice (some ⟨w.heap.size, 0, none⟩) n n) w1 ∧
    w1.rowIs w.heap.size 5 n (fun _ => .int .u8 0) ∧ Below w.heap.size w w1 :=
  ⟨_, run_make_row' (P := Try.prog) 34 5 (.int .u8 0) 1 Try.underlying34 info5 rfl .i64 .i64 n (by omega) (by omega) w, World.rowIs_made w _ n 5, (Below.refl _ _).alloc (Nat.le_refl _) _⟩

/-- what the row holds when k bytes are done -/
def rowAt (up : Bool) (s : ByteArray) (k j : Nat) : Value := if j < k then .int .u8 ((casedAt up s j : Nat) : Int) else .int .u8 0

theorem row_step {up : Bool} {s : ByteArray} {B k : Nat} {wr : World} (h : wr.rowIs B 5 s.size (rowAt up s k)) (hk : k < s.size) {x : Int} (hx : x = ((cased up s[k].toNat : Nat) : Int)) :
    (wr.setCell ⟨B, k, none⟩ (.int .u8 x)).rowIs B 5 s.size (rowAt up s (k + 1)) := by
  refine (h.set k (.int .u8 x)).congr ?_
  intro i hi
  unfold rowAt
  by_cases e : i = k
  · subst e
    rw [if_pos rfl, if_pos (by omega), casedAt_get up s i hk, hx]
  · rw [if_neg e]
    by_cases l : i < k
    · rw [if_pos l, if_pos (by omega)]
    · rw [if_neg l, if_neg (by omega)]

theorem row_back {up : Bool} {s : ByteArray} {B : Nat} {wr : World} (h : wr.rowIs B 5 s.size (rowAt up s s.size)) :
    (convert 34 9 (.slice (some ⟨B, 0, none⟩) s.size s.size)).run Try.prog wr = .ok (.string (casedA up s)) wr := by
  have := run_convert_bytes_back (P := Try.prog) wr 34 9 5 ⟨B, 0, none⟩ s.size (casedL up s) Try.underlying34 Try.underlying5 Try.underlying9 (fun j hj => by
    have hj' : j < s.size := by rw [casedL_length] at hj; exact hj
    have hc := h.cell hj'
    unfold rowAt at hc
    rw [if_pos hj'] at hc
    rw [casedL_get]
    have ha : (Addr.mk B 0 none).add j = ⟨B, j, none⟩ := by simp [Addr.add]; intro h; exact h.symm
    rw [ha]; exact hc)
  rw [casedL_length] at this
  exact this

set_option maxHeartbeats 1000000 in
theorem mapCase_any (s : ByteArray) (up : Bool) (hs : s.size ≤ 524288) (w : World) :
    Calls Try.prog 15 #[.string s, .bool up] w fun e w' => e = .returned (.string (casedA up s)) ∧ Below w.heap.size w w' := by
  obtain ⟨w1, hmk, hrow, hbel⟩ := make_bytes s.size hs w
  have HR : Hid (w1.rowIs w.heap.size 5 s.size (rowAt up s 0)) := hrow.congr fun i _ => by simp [rowAt]
  have HB : Hid (Below w.heap.size w w1) := hbel
  clear hrow hbel
  go_enter Try.func15, Try.ntmps15
  go_wp2
  go_loopw [6] (fun i wr => ∃ k : Nat, k ≤ s.size ∧ i = .int .i64 k ∧ wr.rowIs w.heap.size 5 s.size (rowAt up s k) ∧ Below w.heap.size w wr)
    (fun i _ => s.size - (intOf i).toNat)
  case atStart => exact ⟨0, Nat.zero_le _, rfl, HR.out, HB.out⟩
  case round =>
    obtain ⟨k, hk, rfl, hrow, hbel⟩ := hrel
    have HR1 : Hid _ := hrow
    have HB1 : Hid _ := hbel
    clear hmk HR HB
    by_cases hlt : k < s.size
    · have i1 : (k : Int) < (s.size : Int) := by omega
      have hc := hrow.cell hlt
      have hf := hrow.frozen k
      obtain ⟨v0, hv0⟩ : ∃ v0, rowAt up s k k = v0 := ⟨_, rfl⟩
      rw [hv0] at hc
      have hl := lt256 s[k]
      clear hrow hbel hv0
      cases up
      case true =>
        rcases (show s[k].toNat ≤ 96 ∨ (97 ≤ s[k].toNat ∧ s[k].toNat ≤ 122) ∨ 123 ≤ s[k].toNat from by omega) with g | ⟨g1, g2⟩ | g
        · have t1 : ¬ (97 : Int) ≤ (s[k].toNat : Int) := by omega
          go_wp2
          go_roundw
          case rel => exact ⟨k + 1, by omega, by go_num, row_step HR1.out hlt (by unfold cased; rw [if_neg (by omega), if_neg (by simp)]), HB1.out.setCell (Nat.le_refl _) _⟩
          case measure => simp [intOf]; omega
        · have t1 : (97 : Int) ≤ (s[k].toNat : Int) := by omega
          have t2 : (s[k].toNat : Int) ≤ 122 := by omega
          go_wp2
          go_roundw
          case rel => exact ⟨k + 1, by omega, by go_num, row_step HR1.out hlt (by unfold cased; rw [if_pos ⟨rfl, g1, g2⟩]; omega), HB1.out.setCell (Nat.le_refl _) _⟩
          case measure => simp [intOf]; omega
        · have t1 : (97 : Int) ≤ (s[k].toNat : Int) := by omega
          have t2 : ¬ (s[k].toNat : Int) ≤ 122 := by omega
          go_wp2
          go_roundw
          case rel => exact ⟨k + 1, by omega, by go_num, row_step HR1.out hlt (by unfold cased; rw [if_neg (by omega), if_neg (by simp)]), HB1.out.setCell (Nat.le_refl _) _⟩
          case measure => simp [intOf]; omega
      case false =>
        rcases (show s[k].toNat ≤ 64 ∨ (65 ≤ s[k].toNat ∧ s[k].toNat ≤ 90) ∨ 91 ≤ s[k].toNat from by omega) with g | ⟨g1, g2⟩ | g
        · have t1 : ¬ (65 : Int) ≤ (s[k].toNat : Int) := by omega
          go_wp2
          go_roundw
          case rel => exact ⟨k + 1, by omega, by go_num, row_step HR1.out hlt (by unfold cased; rw [if_neg (by simp), if_neg (by omega)]), HB1.out.setCell (Nat.le_refl _) _⟩
          case measure => simp [intOf]; omega
        · have t1 : (65 : Int) ≤ (s[k].toNat : Int) := by omega
          have t2 : (s[k].toNat : Int) ≤ 90 := by omega
          go_wp2
          go_roundw
          case rel => exact ⟨k + 1, by omega, by go_num, row_step HR1.out hlt (by unfold cased; rw [if_neg (by simp), if_pos ⟨rfl, g1, g2⟩]; omega), HB1.out.setCell (Nat.le_refl _) _⟩
          case measure => simp [intOf]; omega
        · have t1 : (65 : Int) ≤ (s[k].toNat : Int) := by omega
          have t2 : ¬ (s[k].toNat : Int) ≤ 90 := by omega
          go_wp2
          go_roundw
          case rel => exact ⟨k + 1, by omega, by go_num, row_step HR1.out hlt (by unfold cased; rw [if_neg (by simp), if_neg (by omega)]), HB1.out.setCell (Nat.le_refl _) _⟩
          case measure => simp [intOf]; omega
    · have : k = s.size := by omega
      subst this
      have hback := row_back HR1.out
      clear hrow
      go_wp2
      go_ret
      exact ⟨rfl, HB1.out⟩

end Go.Proofs.Qxb6602922a
