/- THE PLAIN LAWS OF SEAT b6602922a: no Go in sight. -/
namespace Go.Proofs.Qxb6602922a.Plain

/-- a byte, its ASCII capital lowered -/
def low (c : Nat) : Nat := if 65 ≤ c ∧ c ≤ 90 then c + 32 else c

def folds (a : ByteArray) : List Nat := a.data.toList.map fun c => low c.toNat

/-- two names are one domain -/
def same (a b : ByteArray) : Bool := decide (folds a = folds b)

theorem same_refl (a : ByteArray) : same a a = true := by simp [same]
theorem same_symm (a b : ByteArray) : same a b = same b a := by
  unfold same; rw [decide_eq_decide]; exact eq_comm
theorem same_trans (a b c : ByteArray) (h : same a b = true) (g : same b c = true) : same a c = true := by
  simp only [same, decide_eq_true_eq] at *; rw [h, g]

theorem folds_length (a : ByteArray) : (folds a).length = a.size := by
  simp [folds]

theorem folds_get (a : ByteArray) (k : Nat) (h : k < a.size) : (folds a)[k]'(by rw [folds_length]; exact h) = low a[k].toNat := by
  simp [folds]; rfl

theorem same_size (a b : ByteArray) (h : a.size ≠ b.size) : same a b = false := by
  simp only [same, decide_eq_false_iff_not]
  intro e
  have := congrArg List.length e
  rw [folds_length, folds_length] at this
  exact h this

theorem same_at (a b : ByteArray) (k : Nat) (ha : k < a.size) (hb : k < b.size) (h : low a[k].toNat ≠ low b[k].toNat) : same a b = false := by
  simp only [same, decide_eq_false_iff_not]
  intro e
  apply h
  rw [← folds_get a k ha, ← folds_get b k hb]
  simp only [e]

theorem same_all (a b : ByteArray) (hs : a.size = b.size) (h : ∀ k (ha : k < a.size) (hb : k < b.size), low a[k].toNat = low b[k].toNat) : same a b = true := by
  simp only [same, decide_eq_true_eq]
  apply List.ext_getElem
  · rw [folds_length, folds_length]; exact hs
  · intro k h1 h2
    rw [folds_length] at h1 h2
    rw [folds_get a k h1, folds_get b k h2]
    exact h k h1 h2

/-- what the bitwise model asks of two bytes -/
def fold (x y : Nat) : Bool := x == y || ((x ^^^ y) == 32 && (97 ≤ (x ||| 32) && (x ||| 32) ≤ 122))

/-- bit 5 turned over; bit 5 set: over all bytes, by the kernel -/
theorem bit_all : ∀ x : Fin 256, (x.val ^^^ 32) = (if x.val / 32 % 2 = 1 then x.val - 32 else x.val + 32) ∧ (x.val ||| 32) = (if x.val / 32 % 2 = 1 then x.val else x.val + 32) := by decide +kernel

theorem xor_32 (x y : Nat) : (x ^^^ y) = 32 ↔ y = (x ^^^ 32) := by
  constructor
  · intro h
    rw [← h, ← Nat.xor_assoc, Nat.xor_self, Nat.zero_xor]
  · intro h
    rw [h, ← Nat.xor_assoc, Nat.xor_self, Nat.zero_xor]

theorem low_of (c : Nat) : low c = c ∧ ¬ (65 ≤ c ∧ c ≤ 90) ∨ low c = c + 32 ∧ 65 ≤ c ∧ c ≤ 90 := by
  unfold low
  by_cases h : 65 ≤ c ∧ c ≤ 90
  · rw [if_pos h]; omega
  · rw [if_neg h]; omega

theorem fold_low (x y : Nat) (hx : x < 256) : (low x == low y) = fold x y := by
  obtain ⟨h5, h6⟩ := bit_all ⟨x, hx⟩
  simp only at h5 h6
  unfold fold
  rw [Bool.eq_iff_iff]
  simp only [beq_iff_eq, Bool.or_eq_true, Bool.and_eq_true, decide_eq_true_eq, xor_32]
  have lx := low_of x
  have ly := low_of y
  by_cases hb : x / 32 % 2 = 1
  · rw [if_pos hb] at h5 h6
    rw [h5, h6]
    omega
  · rw [if_neg hb] at h5 h6
    rw [h5, h6]
    omega

end Go.Proofs.Qxb6602922a.Plain
