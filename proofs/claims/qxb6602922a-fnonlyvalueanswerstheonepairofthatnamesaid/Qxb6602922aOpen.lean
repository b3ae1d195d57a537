/- A SLICE OF PAIRS THAT CAME IN, OPENED (seat b6602922a). -/
import Derived.Test.Qxb6602922aOnly
import Derived.Deep.SlicePairs
import Derived.ProofKit
namespace Go.Proofs.Qxb6602922a
open Go.ChangeShapes Go.WideShapes Go.ChangeAt Go.RowKit Plain
set_option linter.unusedVariables false

theorem cells33 : Try.prog.cellsOf 33 = 2 := by kernel_rfl
theorem cells9 : Try.prog.cellsOf 9 = 1 := by kernel_rfl

/-- the bytes of a string value -/
def strOf : Value → ByteArray
  | .string s => s
  | _ => ⟨#[]⟩

theorem open_pairs {H : Type} {enc : TypeId × Value → H} {W : World} {base : Nat} {spare : Nat → Bool} {held : Bool} {a0 : Option Addr} {len0 cap0 : Nat} {d : DataW H} {ps : List MemPlace}
    (h : DataW.Trod enc Try.prog W base spare held 26 (.slice a0 len0 cap0) d ps) : ∃ N V, IsPairs W a0 len0 N V ∧ Short len0 N V ∧ len0 ≤ maxLen := by
  obtain ⟨fuel, hf⟩ := h
  rcases Deep.open_slice_pairs Try.underlying26 Try.underlying33 cells33 rfl rfl cells9 cells9 hf with ⟨hcs, _⟩ | ⟨a, len, cap, m, n, V0, V1, D0, D1, P0, P1, hcs, _, hl, hm, hmm, _, hall⟩
  · simp [Value.cells] at hcs
    obtain ⟨rfl, rfl, rfl⟩ := hcs
    exact ⟨fun _ => ⟨#[]⟩, fun _ => ⟨#[]⟩, fun h => absurd h (by omega), fun i hi => absurd hi (by omega), Nat.zero_le _⟩
  · simp [Value.cells] at hcs
    obtain ⟨rfl, rfl, rfl⟩ := hcs
    have hlm : len0 ≤ m := by rw [hmm]; split <;> omega
    have each : ∀ i, i < len0 → W.cell? (a.add (i * 2)) = some (.string (strOf (V0 i))) ∧ W.cell? (a.add (i * 2 + 1)) = some (.string (strOf (V1 i))) ∧ (strOf (V0 i)).size ≤ maxLen ∧ (strOf (V1 i)).size ≤ maxLen := by
      intro i hi
      obtain ⟨g0, g1, t0, t1⟩ := hall i (by omega)
      obtain ⟨s0, e0, _, z0⟩ := DataW.trod_string Try.underlying9 t0
      obtain ⟨s1, e1, _, z1⟩ := DataW.trod_string Try.underlying9 t1
      simp only [List.cons.injEq, and_true] at e0 e1
      rw [e0] at g0 ⊢
      rw [e1] at g1 ⊢
      exact ⟨g0, g1, z0, z1⟩
    refine ⟨fun i => strOf (V0 i), fun i => strOf (V1 i), fun hpos => ?_, fun i hi => ⟨?_, ?_⟩, by omega⟩
    · obtain ⟨b, off, spot⟩ := a
      have hs := (each 0 hpos).1
      have hspot : spot = none := by simpa [Addr.add] using World.cell?_spot hs
      subst hspot
      refine ⟨b, off, rfl, fun i hi => ?_⟩
      have := each i hi
      have p0 : (Addr.mk b off none).add (i * 2) = ⟨b, off + i * 2, none⟩ := add_plain _ _ _
      have p1 : (Addr.mk b off none).add (i * 2 + 1) = ⟨b, off + i * 2 + 1, none⟩ := add_plain _ _ _
      rw [p0, p1] at this
      exact ⟨this.1, this.2.1⟩
    · have := (each i hi).2.2.1; unfold maxLen at this; omega
    · have := (each i hi).2.2.2; unfold maxLen at this; omega

theorem pairs_below {w w' : World} {a : Option Addr} {len : Nat} {N V : Nat → ByteArray} (h : IsPairs w a len N V) (b : Below w.heap.size w w') : IsPairs w' a len N V := by
  intro hpos
  obtain ⟨x, off, rfl, hp⟩ := h hpos
  exact ⟨x, off, rfl, fun i hi => ⟨(b.cell (cell_lt (hp i hi).1)).trans (hp i hi).1, (b.cell (cell_lt (hp i hi).2)).trans (hp i hi).2⟩⟩
theorem pairs_drewN {w : World} {a : Option Addr} {len n : Nat} {N V : Nat → ByteArray} (h : IsPairs w a len N V) : IsPairs (w.drewN n) a len N V := h

end Go.Proofs.Qxb6602922a
