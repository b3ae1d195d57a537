/- THE PLAIN LAWS OF onlyValue (seat b6602922a): pairs by their index, N i the names, V i the values; no Go function in sight (the model's order on strings alone). -/
import GoSem.Op.String
namespace Go.Proofs.Qxb6602922a.Plain

def hit (N : Nat → ByteArray) (nm : ByteArray) (i : Nat) : Bool := (N i).toList == nm.toList

/-- what onlyValue answers: (g, ok) -/
def OnlySpec (N V : Nat → ByteArray) (nm : ByteArray) (len : Nat) (g : ByteArray) (ok : Bool) : Prop :=
  ((∀ i, i < len → hit N nm i = false) ∧ g = ⟨#[]⟩ ∧ ok = false) ∨
  ∃ i, i < len ∧ hit N nm i = true ∧ (∀ j, j < i → hit N nm j = false) ∧
    ((i + 1 < len ∧ hit N nm (i + 1) = true ∧ g = ⟨#[]⟩ ∧ ok = false) ∨ ((i + 1 < len → hit N nm (i + 1) = false) ∧ g = V i ∧ ok = true))

def cnt (N : Nat → ByteArray) (nm : ByteArray) : Nat → Nat
  | 0 => 0
  | k + 1 => cnt N nm k + if hit N nm k then 1 else 0
def lastV (N V : Nat → ByteArray) (nm : ByteArray) : Nat → ByteArray
  | 0 => ⟨#[]⟩
  | k + 1 => if hit N nm k then V k else lastV N V nm k
def firstI (N : Nat → ByteArray) (nm : ByteArray) : Nat → Int
  | 0 => -1
  | k + 1 => if hit N nm k && decide (firstI N nm k < 0) then (k : Int) else firstI N nm k

theorem cnt_le (N : Nat → ByteArray) (nm : ByteArray) : ∀ k, cnt N nm k ≤ k
  | 0 => Nat.le_refl _
  | k + 1 => by have := cnt_le N nm k; unfold cnt; split <;> omega
theorem cnt_mono (N : Nat → ByteArray) (nm : ByteArray) (a : Nat) : ∀ b, a ≤ b → cnt N nm a ≤ cnt N nm b
  | 0, h => by have : a = 0 := by omega
               subst this; exact Nat.le_refl _
  | b + 1, h => by
    by_cases e : a = b + 1
    · subst e; exact Nat.le_refl _
    · have := cnt_mono N nm a b (by omega)
      have h2 : cnt N nm (b + 1) = cnt N nm b + if hit N nm b then 1 else 0 := rfl
      omega
theorem cnt_none (N : Nat → ByteArray) (nm : ByteArray) : ∀ k, (∀ i, i < k → hit N nm i = false) → cnt N nm k = 0
  | 0, _ => rfl
  | k + 1, h => by
    have h2 : cnt N nm (k + 1) = cnt N nm k + if hit N nm k then 1 else 0 := rfl
    rw [h2, cnt_none N nm k (fun i hi => h i (by omega)), h k (by omega)]; rfl
theorem cnt_hit (N : Nat → ByteArray) (nm : ByteArray) (i : Nat) (h : hit N nm i = true) : cnt N nm (i + 1) = cnt N nm i + 1 := by
  have h2 : cnt N nm (i + 1) = cnt N nm i + if hit N nm i then 1 else 0 := rfl
  rw [h2, h]; rfl
theorem cnt_miss (N : Nat → ByteArray) (nm : ByteArray) (i : Nat) (h : hit N nm i = false) : cnt N nm (i + 1) = cnt N nm i := by
  have h2 : cnt N nm (i + 1) = cnt N nm i + if hit N nm i then 1 else 0 := rfl
  rw [h2, h]; rfl
theorem lastV_hit (N V : Nat → ByteArray) (nm : ByteArray) (i : Nat) (h : hit N nm i = true) : lastV N V nm (i + 1) = V i := by
  have h2 : lastV N V nm (i + 1) = if hit N nm i then V i else lastV N V nm i := rfl
  rw [h2, h]; rfl
theorem lastV_miss (N V : Nat → ByteArray) (nm : ByteArray) (i : Nat) (h : hit N nm i = false) : lastV N V nm (i + 1) = lastV N V nm i := by
  have h2 : lastV N V nm (i + 1) = if hit N nm i then V i else lastV N V nm i := rfl
  rw [h2, h]; rfl
theorem firstI_new (N : Nat → ByteArray) (nm : ByteArray) (i : Nat) (h : hit N nm i = true) (g : firstI N nm i < 0) : firstI N nm (i + 1) = i := by
  have h2 : firstI N nm (i + 1) = if hit N nm i && decide (firstI N nm i < 0) then (i : Int) else firstI N nm i := rfl
  rw [h2, if_pos (by simp [h, g])]
theorem firstI_old (N : Nat → ByteArray) (nm : ByteArray) (i : Nat) (g : ¬ firstI N nm i < 0) : firstI N nm (i + 1) = firstI N nm i := by
  have h2 : firstI N nm (i + 1) = if hit N nm i && decide (firstI N nm i < 0) then (i : Int) else firstI N nm i := rfl
  rw [h2, if_neg (by simp; intro _; omega)]
theorem firstI_miss (N : Nat → ByteArray) (nm : ByteArray) (i : Nat) (h : hit N nm i = false) : firstI N nm (i + 1) = firstI N nm i := by
  have h2 : firstI N nm (i + 1) = if hit N nm i && decide (firstI N nm i < 0) then (i : Int) else firstI N nm i := rfl
  rw [h2, if_neg (by simp [h])]
theorem firstI_bd (N : Nat → ByteArray) (nm : ByteArray) : ∀ k, -1 ≤ firstI N nm k ∧ firstI N nm k < k
  | 0 => by unfold firstI; omega
  | k + 1 => by
    have := firstI_bd N nm k
    unfold firstI
    split <;> omega

/-- the first hit is at i -/
theorem first_at (N : Nat → ByteArray) (nm : ByteArray) (i : Nat) (hi : hit N nm i = true) (hb : ∀ j, j < i → hit N nm j = false) : ∀ k, i < k → firstI N nm k = i := by
  have z : ∀ k, k ≤ i → firstI N nm k = -1 := by
    intro k
    induction k with
    | zero => intro _; rfl
    | succ k ih => intro h; rw [firstI_miss N nm k (hb k (by omega))]; exact ih (by omega)
  intro k
  induction k with
  | zero => intro h; omega
  | succ k ih =>
    intro h
    by_cases e : i = k
    · subst e
      exact firstI_new N nm i hi (by rw [z i (Nat.le_refl _)]; omega)
    · have := ih (by omega)
      rw [firstI_old N nm k (by omega)]
      exact this

theorem one_last (N V : Nat → ByteArray) (nm : ByteArray) (i : Nat) (hi : hit N nm i = true) : ∀ k, i < k → cnt N nm k = 1 → lastV N V nm k = V i := by
  intro k
  induction k with
  | zero => intro h; omega
  | succ k ih =>
    intro h hc
    by_cases e : i = k
    · subst e; exact lastV_hit N V nm i hi
    · cases hk : hit N nm k
      · rw [lastV_miss N V nm k hk]
        rw [cnt_miss N nm k hk] at hc
        exact ih (by omega) hc
      · rw [cnt_hit N nm k hk] at hc
        have := cnt_mono N nm (i + 1) k (by omega)
        rw [cnt_hit N nm i hi] at this
        omega

theorem cnt_pos (N : Nat → ByteArray) (nm : ByteArray) (i k : Nat) (hi : hit N nm i = true) (h : i < k) : 1 ≤ cnt N nm k := by
  have := cnt_mono N nm (i + 1) k (by omega)
  rw [cnt_hit N nm i hi] at this
  omega
theorem cnt_two (N : Nat → ByteArray) (nm : ByteArray) (i k : Nat) (hi : hit N nm i = true) (h1 : hit N nm (i + 1) = true) (h : i + 1 < k) : 2 ≤ cnt N nm k := by
  have := cnt_mono N nm (i + 1 + 1) k (by omega)
  rw [cnt_hit N nm (i + 1) h1, cnt_hit N nm i hi] at this
  omega

/-! ### the order on strings -/
theorem less_irrefl : ∀ x : List UInt8, Op.bytesLess x x = false
  | [] => rfl
  | a :: x => by simp [Op.bytesLess, less_irrefl x]
theorem less_trans : ∀ x y z : List UInt8, Op.bytesLess x y = true → Op.bytesLess y z = true → Op.bytesLess x z = true
  | _, [], _, h, _ => by simp [Op.bytesLess] at h
  | _, _ :: _, [], _, g => by simp [Op.bytesLess] at g
  | [], _ :: _, _ :: _, _, _ => rfl
  | a :: x, b :: y, c :: z, h, g => by
    simp only [Op.bytesLess, Bool.or_eq_true, Bool.and_eq_true, decide_eq_true_eq, beq_iff_eq] at *
    rcases h with h | ⟨rfl, h⟩
    · rcases g with g | ⟨rfl, g⟩
      · left; exact UInt8.lt_trans h g
      · left; exact h
    · rcases g with g | ⟨rfl, g⟩
      · left; exact g
      · right; exact ⟨rfl, less_trans x y z h g⟩
theorem less_tri : ∀ x y : List UInt8, Op.bytesLess x y = false → x ≠ y → Op.bytesLess y x = true
  | [], [], _, h => absurd rfl h
  | _ :: _, [], _, _ => rfl
  | [], _ :: _, h, _ => by simp [Op.bytesLess] at h
  | a :: x, b :: y, h, g => by
    simp only [Op.bytesLess, Bool.or_eq_true, Bool.and_eq_true, decide_eq_true_eq, beq_iff_eq, Bool.or_eq_false_iff, Bool.and_eq_false_iff, decide_eq_false_iff_not, beq_eq_false_iff_ne] at *
    obtain ⟨h1, h2⟩ := h
    by_cases e : a = b
    · subst e
      right
      refine ⟨rfl, less_tri x y ?_ (fun e => g (by rw [e]))⟩
      rcases h2 with h2 | h2
      · exact absurd rfl h2
      · exact h2
    · left
      rcases UInt8.lt_or_lt_of_ne e with h | h
      · exact absurd h h1
      · exact h

/-- sorted by name -/
def Sorted (N : Nat → ByteArray) (len : Nat) : Prop := ∀ i, 1 ≤ i → i < len → Op.bytesLess (N i).toList (N (i - 1)).toList = false

theorem sorted_one (N : Nat → ByteArray) (nm : ByteArray) (len i : Nat) (hs : Sorted N len) (hi : hit N nm i = true) (hb : ∀ j, j < i → hit N nm j = false)
    (h1 : i + 1 < len → hit N nm (i + 1) = false) (hl : i < len) : cnt N nm len = 1 := by
  have big : ∀ j, i < j → j < len → Op.bytesLess nm.toList (N j).toList = true := by
    intro j
    induction j with
    | zero => intro h; omega
    | succ j ih =>
      intro hij hjl
      have hsj := hs (j + 1) (by omega) hjl
      rw [Nat.add_sub_cancel] at hsj
      by_cases e : i = j
      · subst e
        have hn : (N i).toList = nm.toList := by simpa [hit] using hi
        have hne : ¬ (N (i + 1)).toList = nm.toList := by simpa [hit] using h1 hjl
        rw [hn] at hsj
        exact less_tri _ _ hsj hne
      · have hj := ih (by omega) (by omega)
        by_cases e2 : (N (j + 1)).toList = (N j).toList
        · rw [e2]; exact hj
        · exact less_trans _ _ _ hj (less_tri _ _ hsj e2)
  have c0 : cnt N nm (i + 1) = 1 := by rw [cnt_hit N nm i hi, cnt_none N nm i hb]
  have go : ∀ k, i < k → k ≤ len → cnt N nm k = 1 := by
    intro k
    induction k with
    | zero => intro h; omega
    | succ k ih =>
      intro h hk
      by_cases e : i = k
      · subst e; exact c0
      · have hb := big k (by omega) (by omega)
        have hm : hit N nm k = false := by
          unfold hit
          rw [beq_eq_false_iff_ne]
          intro e
          rw [e, less_irrefl] at hb
          cases hb
        rw [cnt_miss N nm k hm]
        exact ih (by omega) (by omega)
  exact go len hl (Nat.le_refl _)

end Go.Proofs.Qxb6602922a.Plain
