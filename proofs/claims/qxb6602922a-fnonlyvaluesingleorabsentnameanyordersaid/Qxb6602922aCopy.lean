/- THE WALK OF copyPairs (23) (seat b6602922a). -/
import Derived.Test.Qxb6602922aPairs
import Derived.Deep.OwnRows
import Derived.Lib.SliceRun
namespace Go.Proofs.Qxb6602922a
open Go.RowKit Plain
set_option linter.unusedVariables false

theorem info33 : (Try.prog.info? 33).map (fun i => (i.zero, i.size, i.bytes)) = some (some (.agg #[.string ⟨#[]⟩, .string ⟨#[]⟩]), 2, 32) := by kernel_rfl

/-- what a row of pairs holds when k pairs are laid -/
def pairRow (N V : Nat → ByteArray) (k j : Nat) : Value :=
  if j / 2 < k then (if j % 2 = 0 then .string (N (j / 2)) else .string (V (j / 2))) else .string ⟨#[]⟩

theorem make_pairs (t e : TypeId) (ht : Try.prog.underlying t = some (.slice e)) (hinfo : (Try.prog.info? e).map (fun i => (i.zero, i.size, i.bytes)) = some (some (.agg #[.string ⟨#[]⟩, .string ⟨#[]⟩]), 2, 32))
    (n : Nat) (hn : n ≤ 32768) (w : World) (N V : Nat → ByteArray) :
    ∃ w1, (Instr.makeSlice t (.int .i64 (n : Int)) (.int .i64 (n : Int))).run Try.prog w = .ok (.slice (some ⟨w.heap.size, 0, none⟩) n n) w1 ∧
    w1.rowIs w.heap.size e (n * 2) (pairRow N V 0) ∧ Below w.heap.size w w1 ∧ w1.heap.size = w.heap.size + 1 := by
  obtain ⟨i, hi, hzz⟩ := Option.map_eq_some_iff.1 hinfo
  simp only [Prod.mk.injEq] at hzz
  obtain ⟨hz, hs, hb⟩ := hzz
  have hr := run_make (P := Try.prog) w t e i _ ht hi hz .i64 .i64 n n (by omega) (Int.le_refl _) (by rw [hb]; omega) (by omega)
  rw [hs] at hr
  simp only [Int.toNat_natCast] at hr
  refine ⟨_, hr, ?_, (Below.refl _ _).alloc (Nat.le_refl _) _, by simp⟩
  refine ⟨_, Deep.blk_alloc_new _ _, size_madeCells _ _, fun j hj => ?_⟩
  have hc : (Value.agg #[.string ⟨#[]⟩, .string ⟨#[]⟩]).cells = #[.string ⟨#[]⟩, .string ⟨#[]⟩] := rfl
  rw [hc]
  have hp : pairRow N V 0 j = .string ⟨#[]⟩ := by simp [pairRow]
  rw [hp]
  have : j % 2 = 0 ∨ j % 2 = 1 := by omega
  rcases this with h | h <;> simp [madeCells, hj, h]

theorem cell_lt {w : World} {a : Addr} {v : Value} (h : w.cell? a = some v) : a.block < w.heap.size := by
  unfold World.cell? at h
  cases e : w.heap[a.block]? with
  | none => rw [e] at h; simp at h
  | some o => exact (Array.getElem?_eq_some_iff.1 e).1

/-- a pair stored -/
theorem pair_step {N V : Nat → ByteArray} {B e len k : Nat} {wr : World} (h : wr.rowIs B e (len * 2) (pairRow N V k)) (hk : k < len) :
    ((wr.setCell ⟨B, k * 2, none⟩ (.string (N k))).setCell ⟨B, k * 2 + 1, none⟩ (.string (V k))).rowIs B e (len * 2) (pairRow N V (k + 1)) := by
  refine ((h.set (k * 2) (.string (N k))).set (k * 2 + 1) (.string (V k))).congr ?_
  intro i hi
  unfold pairRow
  by_cases e1 : i = k * 2 + 1
  · have a1 : i / 2 = k := by omega
    have a2 : ¬ i % 2 = 0 := by omega
    rw [if_pos e1, if_pos (by omega), if_neg a2, a1]
  · rw [if_neg e1]
    by_cases e2 : i = k * 2
    · have a1 : i / 2 = k := by omega
      have a2 : i % 2 = 0 := by omega
      rw [if_pos e2, if_pos (by omega), if_pos a2, a1]
    · rw [if_neg e2]
      by_cases l : i / 2 < k
      · rw [if_pos l, if_pos (show i / 2 < k + 1 by omega)]
      · rw [if_neg l, if_neg (by omega)]

theorem pairs_row {N V : Nat → ByteArray} {B e len : Nat} {wr : World} (h : wr.rowIs B e (len * 2) (pairRow N V len)) : IsPairs wr (some ⟨B, 0, none⟩) len N V := by
  intro _
  refine ⟨B, 0, rfl, fun i hi => ?_⟩
  have h0 := h.cell (i := i * 2) (by omega)
  have h1 := h.cell (i := i * 2 + 1) (by omega)
  have a0 : pairRow N V len (i * 2) = .string (N i) := by
    have a1 : i * 2 / 2 = i := by omega
    have a2 : i * 2 % 2 = 0 := by omega
    unfold pairRow; rw [a1, if_pos hi, if_pos a2]
  have b0 : pairRow N V len (i * 2 + 1) = .string (V i) := by
    have a1 : (i * 2 + 1) / 2 = i := by omega
    have a2 : ¬ (i * 2 + 1) % 2 = 0 := by omega
    unfold pairRow; rw [a1, if_pos hi, if_neg a2]
  rw [a0] at h0
  rw [b0] at h1
  rw [Nat.zero_add]
  exact ⟨h0, h1⟩

/-- the same pairs, in new memory -/
def IsCopy (w' : World) (len : Nat) (N V : Nat → ByteArray) (e : Ending) : Prop := ∃ a', e = .returned (.slice a' len len) ∧ IsPairs w' a' len N V

set_option maxHeartbeats 1000000 in
theorem copy_any (a : Option Addr) (len cap : Nat) (N V : Nat → ByteArray) (w : World) (hl : len ≤ 32768) (hp : IsPairs w a len N V) :
    Calls Try.prog 23 #[.slice a len cap] w fun e w' => IsCopy w' len N V e ∧ Below w.heap.size w w' := by
  have HP : Hid _ := hp
  clear hp
  have heq := fun w => Lib.run_eql_slice_nil (P := Try.prog) w 26 33 a len cap 0 0 Try.underlying26
  cases a
  case none =>
    go_enter Try.func23, Try.ntmps23
    go_wp2
    go_ret
    have h0 : len = 0 := by
      rcases Nat.eq_zero_or_pos len with h | h
      · exact h
      · obtain ⟨b, off, hx, _⟩ := HP.out h
        cases hx
    subst h0
    exact ⟨⟨none, rfl, HP.out⟩, Below.refl _ _⟩
  case some x =>
    obtain ⟨w1, hmk, hrow, hbel, hsz⟩ := make_pairs 26 33 Try.underlying26 info33 len hl w N V
    have HR : Hid _ := hrow
    have HB : Hid _ := hbel
    have HZ : Hid _ := hsz
    clear hrow hbel hsz
    go_enter Try.func23, Try.ntmps23
    go_wp2
    go_loopw [4] (fun i wr => ∃ k : Nat, k ≤ len ∧ i = .int .i64 k ∧ wr.rowIs w.heap.size 33 (len * 2) (pairRow N V k) ∧ Below w.heap.size w wr)
      (fun i _ => len - (intOf i).toNat)
    case atStart => exact ⟨0, Nat.zero_le _, rfl, HR.out, HB.out⟩
    case round =>
      obtain ⟨k, hk, rfl, hrow, hbel⟩ := hrel
      have HR1 : Hid _ := hrow
      have HB1 : Hid _ := hbel
      clear hmk HR HB
      by_cases hlt : k < len
      · obtain ⟨b, off, hx, hpp⟩ := HP.out (by omega)
        cases hx
        obtain ⟨c0, c1⟩ := hpp k hlt
        have d0 : wr.cell? ⟨b, off + k * 2, none⟩ = some (.string (N k)) := (hbel.cell (cell_lt c0)).trans c0
        have d1 : wr.cell? ⟨b, off + k * 2 + 1, none⟩ = some (.string (V k)) := (hbel.cell (cell_lt c1)).trans c1
        obtain ⟨v0, hv0⟩ : ∃ v, wr.cell? ⟨w.heap.size, k * 2, none⟩ = some v := ⟨_, hrow.cell (by omega)⟩
        obtain ⟨v1, hv1⟩ : ∃ v, wr.cell? ⟨w.heap.size, k * 2 + 1, none⟩ = some v := ⟨_, hrow.cell (by omega)⟩
        have f0 := hrow.frozen (k * 2)
        have f1 := hrow.frozen (k * 2 + 1)
        clear hpp c0 c1 hrow hbel
        have i1 : (k : Int) < (len : Int) := by omega
        go_wp2
        go_roundw
        case rel => exact ⟨k + 1, by omega, by go_num, pair_step HR1.out hlt, (HB1.out.setCell (Nat.le_refl _) _).setCell (Nat.le_refl _) _⟩
        case measure => simp [intOf]; omega
      · clear hrow hbel
        have hke : k = len := by omega
        have HR2 : Hid (wr.rowIs w.heap.size 33 (len * 2) (pairRow N V len)) := by have h := HR1.out; rw [hke] at h; exact h
        clear hke
        go_wp2
        go_ret
        exact ⟨⟨_, rfl, pairs_row HR2.out⟩, HB1.out⟩

end Go.Proofs.Qxb6602922a
