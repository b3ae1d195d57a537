/- THE WALKS OF onlyValue (33), ZZonlyValue (29), callOnlyValue (24) (seat b6602922a). -/
import Derived.Test.Qxb6602922aCopy
import Derived.RegionTactic
import Derived.BigRegion
namespace Go.Proofs.Qxb6602922a
open Go.RowKit Plain
set_option linter.unusedVariables false

/-- the answer of onlyValue -/
def IsOnly (N V : Nat → ByteArray) (nm : ByteArray) (len : Nat) (e : Ending) : Prop := ∃ g ok, e = .returned (.tuple #[.string g, .bool ok]) ∧ OnlySpec N V nm len g ok

theorem no_step {N : Nat → ByteArray} {nm : ByteArray} {k : Nat} (h : ∀ j, j < k → hit N nm j = false) (g : hit N nm k = false) : ∀ j, j < k + 1 → hit N nm j = false := by
  intro j hj
  by_cases e : j = k
  · subst e; exact g
  · exact h j (by omega)

set_option maxHeartbeats 1000000 in
theorem only_any (a : Option Addr) (len cap : Nat) (nm : ByteArray) (N V : Nat → ByteArray) (w : World) (hl : len ≤ 32768) (hp : IsPairs w a len N V) :
    Calls Try.prog 33 #[.slice a len cap, .string nm] w fun e w' => IsOnly N V nm len e ∧ Below w.heap.size w w' := by
  have HP : Hid _ := hp
  clear hp
  go_enter Try.func33, Try.ntmps33
  go_wp2
  go_loopw [10] (fun i wr => ∃ k : Nat, k ≤ len ∧ i = .int .i64 k ∧ (∀ j, j < k → hit N nm j = false) ∧ Below w.heap.size w wr)
    (fun i _ => len - (intOf i).toNat)
  case atStart => exact ⟨0, Nat.zero_le _, rfl, fun j h => absurd h (by omega), Below.refl _ _⟩
  case round =>
    obtain ⟨k, hk, rfl, hno, hbel⟩ := hrel
    have HN : Hid _ := hno
    have HB1 : Hid _ := hbel
    clear hno
    by_cases hlt : k < len
    · obtain ⟨b, off, rfl, hpp⟩ := HP.out (by omega)
      obtain ⟨c0, c1⟩ := hpp k hlt
      have d0 : wr.cell? ⟨b, off + k * 2, none⟩ = some (.string (N k)) := (hbel.cell (cell_lt c0)).trans c0
      have d1 : wr.cell? ⟨b, off + k * 2 + 1, none⟩ = some (.string (V k)) := (hbel.cell (cell_lt c1)).trans c1
      have lb : b < wr.heap.size := cell_lt d0
      clear c0 c1 hbel
      have i1 : (k : Int) < (len : Int) := by omega
      by_cases hlt1 : k + 1 < len
      · obtain ⟨c0, c1⟩ := hpp (k + 1) hlt1
        have e0 : wr.cell? ⟨b, off + (k + 1) * 2, none⟩ = some (.string (N (k + 1))) := (HB1.out.cell (cell_lt c0)).trans c0
        clear c0 c1 hpp
        go_wp2
        · go_ret2
          exact ⟨⟨_, _, rfl, Or.inr ⟨k, hlt, ‹_›, HN.out, Or.inl ⟨hlt1, ‹_›, rfl, rfl⟩⟩⟩, HB1.out.alloc HB1.out.size _⟩
        · go_ret2
          exact ⟨⟨_, _, rfl, Or.inr ⟨k, hlt, ‹_›, HN.out, Or.inr ⟨fun _ => ‹_›, rfl, rfl⟩⟩⟩, HB1.out.alloc HB1.out.size _⟩
        · go_roundw
          case rel => exact ⟨k + 1, by omega, by go_num, no_step HN.out ‹_›, HB1.out.alloc HB1.out.size _⟩
          case measure => simp [intOf]; omega
      · clear hpp
        go_wp2
        · go_ret2
          exact ⟨⟨_, _, rfl, Or.inr ⟨k, hlt, ‹_›, HN.out, Or.inr ⟨fun h => absurd h hlt1, rfl, rfl⟩⟩⟩, HB1.out.alloc HB1.out.size _⟩
        · go_roundw
          case rel => exact ⟨k + 1, by omega, by go_num, no_step HN.out ‹_›, HB1.out.alloc HB1.out.size _⟩
          case measure => simp [intOf]; omega
    · clear hbel
      go_wp2
      go_ret2
      exact ⟨⟨_, _, rfl, Or.inl ⟨fun i hi => HN.out i (by omega), rfl, rfl⟩⟩, HB1.out⟩

/-- a row of strings of which k are laid -/
def strRow (N : Nat → ByteArray) (k j : Nat) : Value := if j < k then .string (N j) else .string ⟨#[]⟩

theorem str_step {N : Nat → ByteArray} {B e len k : Nat} {wr : World} (h : wr.rowIs B e len (strRow N k)) : (wr.setCell ⟨B, k, none⟩ (.string (N k))).rowIs B e len (strRow N (k + 1)) := by
  refine (h.set k (.string (N k))).congr ?_
  intro i hi
  unfold strRow
  by_cases e1 : i = k
  · rw [if_pos e1, if_pos (by omega), e1]
  · rw [if_neg e1]
    by_cases l : i < k
    · rw [if_pos l, if_pos (by omega)]
    · rw [if_neg l, if_neg (by omega)]

theorem str_cell {N : Nat → ByteArray} {B e len i : Nat} {wr : World} (h : wr.rowIs B e len (strRow N len)) (hi : i < len) : wr.cell? ⟨B, i, none⟩ = some (.string (N i)) := by
  have := h.cell hi
  unfold strRow at this
  rwa [if_pos hi] at this

theorem info9 : (Try.prog.info? 9).map (fun i => (i.zero, i.size, i.bytes)) = some (some (.string ⟨#[]⟩), 1, 16) := by kernel_rfl
theorem info42 : (Try.prog.info? 42).map (fun i => (i.zero, i.size, i.bytes)) = some (some (.agg #[.string ⟨#[]⟩, .string ⟨#[]⟩]), 2, 32) := by kernel_rfl

theorem make_strs (n : Nat) (hn : n ≤ 32768) (w : World) (N : Nat → ByteArray) : ∃ w1, (Instr.makeSlice 36 (.int .i64 (n : Int)) (.int .i64 (n : Int))).run Try.prog w = .ok (.slice (some ⟨w.heap.size, 0, none⟩) n n) w1 ∧
    w1.rowIs w.heap.size 9 n (strRow N 0) ∧ Below w.heap.size w w1 ∧ w1.heap.size = w.heap.size + 1 :=
  ⟨_, run_make_row' (P := Try.prog) 36 9 (.string ⟨#[]⟩) 16 Try.underlying36 info9 rfl .i64 .i64 n (by omega) (by omega) w, (World.rowIs_made w _ n 9).congr fun i _ => by simp [strRow], (Below.refl _ _).alloc (Nat.le_refl _) _, by simp⟩

set_option maxHeartbeats 1000000 in
theorem zzOnly_any (a b len : Nat) (nm : ByteArray) (N V : Nat → ByteArray) (w : World) (hl : len ≤ 32768) (ha : w.rowIs a 9 len (strRow N len)) (hb : w.rowIs b 9 len (strRow V len)) :
    Calls Try.prog 29 #[.slice (some ⟨a, 0, none⟩) len len, .slice (some ⟨b, 0, none⟩) len len, .string nm] w fun e w' => IsOnly N V nm len e ∧ Below w.heap.size w w' := by
  obtain ⟨w1, hmk, hrow, hbel, hsz⟩ := make_pairs 40 42 Try.underlying40 info42 len hl w N V
  have HA : Hid _ := ha
  have HB : Hid _ := hb
  have HR : Hid _ := hrow
  have HW : Hid _ := hbel
  clear ha hb hrow hbel hsz
  go_enter Try.func29, Try.ntmps29
  go_wp2
  go_loopw [10] (fun i wr => ∃ k : Nat, k ≤ len ∧ i = .int .i64 k ∧ wr.rowIs w.heap.size 42 (len * 2) (pairRow N V k) ∧ Below w.heap.size w wr)
    (fun i _ => len - (intOf i).toNat)
  case atStart => exact ⟨0, Nat.zero_le _, rfl, HR.out, HW.out⟩
  case round =>
    obtain ⟨k, hk, rfl, hrow, hbel⟩ := hrel
    have HR1 : Hid _ := hrow
    have HB1 : Hid _ := hbel
    clear hmk HR HW
    by_cases hlt : k < len
    · have c0 := str_cell HA.out hlt
      have c1 := str_cell HB.out hlt
      have d0 : wr.cell? ⟨a, k, none⟩ = some (.string (N k)) := (hbel.cell (cell_lt c0)).trans c0
      have d1 : wr.cell? ⟨b, k, none⟩ = some (.string (V k)) := (hbel.cell (cell_lt c1)).trans c1
      obtain ⟨v0, hv0⟩ : ∃ v, wr.cell? ⟨w.heap.size, k * 2, none⟩ = some v := ⟨_, hrow.cell (by omega)⟩
      obtain ⟨v1, hv1⟩ : ∃ v, wr.cell? ⟨w.heap.size, k * 2 + 1, none⟩ = some v := ⟨_, hrow.cell (by omega)⟩
      have f0 := hrow.frozen (k * 2)
      have f1 := hrow.frozen (k * 2 + 1)
      clear c0 c1 hrow hbel
      have i1 : (k : Int) < (len : Int) := by omega
      go_wp2_with fail
      go_region
      go_wp2
      go_roundw
      case rel => exact ⟨k + 1, by omega, by go_num, (pair_step HR1.out hlt).drew, ((HB1.out.setCell (Nat.le_refl _) _).setCell (Nat.le_refl _) _).drew⟩
      case measure => simp [intOf]; omega
    · clear hrow hbel
      have hke : k = len := by omega
      have HR2 : Hid (wr.rowIs w.heap.size 42 (len * 2) (pairRow N V len)) := by have h := HR1.out; rw [hke] at h; exact h
      clear hke
      go_wp2_with fail
      refine (only_any _ len len nm N V wr hl (pairs_row HR2.out)).mono ?_
      rintro e w2 ⟨⟨g, ok, rfl, hspec⟩, b2⟩
      have HS : Hid _ := hspec
      clear hspec
      go_wp2
      go_ret2
      exact ⟨⟨_, _, rfl, HS.out⟩, HB1.out.trans (b2.mono HB1.out.size)⟩

set_option maxHeartbeats 1000000 in
theorem callOnly_any (a : Option Addr) (len cap : Nat) (nm : ByteArray) (N V : Nat → ByteArray) (w : World) (hl : len ≤ 32768) (hp : IsPairs w a len N V) :
    Calls Try.prog 24 #[.slice a len cap, .string nm] w fun e w' => IsOnly N V nm len e ∧ Below w.heap.size w w' := by
  obtain ⟨w1, hmk, hrow, hbel, hsz⟩ := make_strs len hl w N
  obtain ⟨w2, hmk2, hrow2, hbel2, hsz2⟩ := make_strs len hl w1 V
  have HP : Hid _ := hp
  have HR : Hid (w2.rowIs w.heap.size 9 len (strRow N 0)) := hrow.of_block (hbel2.block _ hrow.lt)
  have HR2 : Hid (w2.rowIs (w.heap.size + 1) 9 len (strRow V 0)) := by have h := hrow2; rw [hsz] at h; exact h
  have HB : Hid (Below w.heap.size w w2) := hbel.trans (hbel2.mono hbel.size)
  clear hp hrow hbel hrow2 hbel2 hsz2
  go_enter Try.func24, Try.ntmps24
  go_wp2
  go_loopw [8] (fun i wr => ∃ k : Nat, k ≤ len ∧ i = .int .i64 k ∧ wr.rowIs w.heap.size 9 len (strRow N k) ∧ wr.rowIs (w.heap.size + 1) 9 len (strRow V k) ∧ Below w.heap.size w wr)
    (fun i _ => len - (intOf i).toNat)
  case atStart => exact ⟨0, Nat.zero_le _, rfl, HR.out, HR2.out, HB.out⟩
  case round =>
    obtain ⟨k, hk, rfl, hrow, hrow2, hbel⟩ := hrel
    have R1 : Hid _ := hrow
    have R2 : Hid _ := hrow2
    have HB1 : Hid _ := hbel
    clear hmk hmk2 HR HR2 HB hsz
    by_cases hlt : k < len
    · obtain ⟨b, off, rfl, hpp⟩ := HP.out (by omega)
      obtain ⟨c0, c1⟩ := hpp k hlt
      have lb : b < w.heap.size := cell_lt c0
      have d0 : wr.cell? ⟨b, off + k * 2, none⟩ = some (.string (N k)) := (hbel.cell (cell_lt c0)).trans c0
      have d1 : wr.cell? ⟨b, off + k * 2 + 1, none⟩ = some (.string (V k)) := (hbel.cell (cell_lt c1)).trans c1
      obtain ⟨v0, hv0⟩ : ∃ v, wr.cell? ⟨w.heap.size, k, none⟩ = some v := ⟨_, hrow.cell (by omega)⟩
      obtain ⟨v1, hv1⟩ : ∃ v, wr.cell? ⟨w.heap.size + 1, k, none⟩ = some v := ⟨_, hrow2.cell (by omega)⟩
      have f0 := hrow.frozen k
      have f1 := hrow2.frozen k
      clear hpp c0 c1 hrow hrow2 hbel
      have i1 : (k : Int) < (len : Int) := by omega
      go_wp2
      go_roundw
      case rel => exact ⟨k + 1, by omega, by go_num, (str_step R1.out).setOther (by simp) _, str_step (World.rowIs.setOther R2.out (by simp) _), (HB1.out.setCell (Nat.le_refl _) _).setCell (by simp) _⟩
      case measure => simp [intOf]; omega
    · clear hrow hrow2 hbel
      have hke : k = len := by omega
      have Q1 : Hid (wr.rowIs w.heap.size 9 len (strRow N len)) := by have h := R1.out; rw [hke] at h; exact h
      have Q2 : Hid (wr.rowIs (w.heap.size + 1) 9 len (strRow V len)) := by have h := R2.out; rw [hke] at h; exact h
      clear hke
      go_wp2_with fail
      refine (zzOnly_any w.heap.size (w.heap.size + 1) len nm N V wr hl Q1.out Q2.out).mono ?_
      rintro e w2 ⟨⟨g, ok, rfl, hspec⟩, b2⟩
      have HS : Hid _ := hspec
      clear hspec
      go_wp2
      go_ret2
      exact ⟨⟨_, _, rfl, HS.out⟩, HB1.out.trans (b2.mono HB1.out.size)⟩

end Go.Proofs.Qxb6602922a
