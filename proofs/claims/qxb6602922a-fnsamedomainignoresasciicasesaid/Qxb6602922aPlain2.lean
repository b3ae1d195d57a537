/- THE PLAIN LAWS OF mapASCIICase (seat b6602922a): no Go in sight. -/
import Derived.Test.Qxb6602922aPlain
namespace Go.Proofs.Qxb6602922a.Plain

/-- a byte, its ASCII letter turned to upper or to lower case -/
def cased (up : Bool) (c : Nat) : Nat := if up = true ∧ 97 ≤ c ∧ c ≤ 122 then c - 32 else if up = false ∧ 65 ≤ c ∧ c ≤ 90 then c + 32 else c

theorem cased_lt (up : Bool) (c : Nat) (h : c < 256) : cased up c < 256 := by
  unfold cased; split
  · omega
  · split <;> omega

theorem low_cased (up : Bool) (c : Nat) : low (cased up c) = low c := by
  unfold cased
  by_cases h : up = true ∧ 97 ≤ c ∧ c ≤ 122
  · rw [if_pos h]
    unfold low
    rw [if_pos (by omega), if_neg (by omega)]
    omega
  · rw [if_neg h]
    by_cases g : up = false ∧ 65 ≤ c ∧ c ≤ 90
    · rw [if_pos g]
      unfold low
      rw [if_neg (by omega), if_pos (by omega)]
    · rw [if_neg g]

def casedL (up : Bool) (s : ByteArray) : List UInt8 := s.data.toList.map fun c => UInt8.ofNat (cased up c.toNat)
def casedA (up : Bool) (s : ByteArray) : ByteArray := ⟨(casedL up s).toArray⟩
def casedAt (up : Bool) (s : ByteArray) (j : Nat) : Nat := cased up (s.data.toList[j]?.getD 0).toNat

theorem casedL_length (up : Bool) (s : ByteArray) : (casedL up s).length = s.size := by simp [casedL]
theorem casedA_size (up : Bool) (s : ByteArray) : (casedA up s).size = s.size := by
  show (casedL up s).toArray.size = s.size
  simp [casedL]

theorem ofNat_toNat (n : Nat) (h : n < 256) : (UInt8.ofNat n).toNat = n := by simp [UInt8.toNat_ofNat']; omega

theorem casedL_get (up : Bool) (s : ByteArray) (j : Nat) (h : j < (casedL up s).length) : ((casedL up s)[j]).toNat = casedAt up s j := by
  have hj : j < s.data.toList.length := by simpa [casedL] using h
  simp only [casedL, List.getElem_map, casedAt, List.getElem?_eq_getElem hj, Option.getD_some]
  exact ofNat_toNat _ (cased_lt _ _ (UInt8.toNat_lt _))

theorem casedAt_get (up : Bool) (s : ByteArray) (j : Nat) (h : j < s.size) : casedAt up s j = cased up s[j].toNat := by
  have hj : j < s.data.toList.length := by simpa using h
  simp only [casedAt, List.getElem?_eq_getElem hj, Option.getD_some]
  congr 2

theorem folds_cased (up : Bool) (s : ByteArray) : folds (casedA up s) = folds s := by
  show ((casedL up s).toArray.toList.map fun c => low c.toNat) = folds s
  simp only [casedL, folds, List.map_map]
  apply List.map_congr_left
  intro c _
  simp only [Function.comp]
  rw [ofNat_toNat _ (cased_lt _ _ (UInt8.toNat_lt _)), low_cased]

theorem same_cased (u v : Bool) (s : ByteArray) : same (casedA u s) (casedA v s) = true := by simp [same, folds_cased]
theorem same_cased_right (v : Bool) (s : ByteArray) : same s (casedA v s) = true := by simp [same, folds_cased]

end Go.Proofs.Qxb6602922a.Plain
