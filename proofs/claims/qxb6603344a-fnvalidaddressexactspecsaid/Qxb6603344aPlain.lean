/- THE PLAIN LAWS OF SEAT b6603344a: no Go in sight. -/
namespace Go.Proofs.Qxb6603344a.Plain

/-- a byte that a name may hold -/
def nameB (c : Nat) : Bool := decide ((97 ≤ c ∧ c ≤ 122) ∨ (65 ≤ c ∧ c ≤ 90) ∨ (48 ≤ c ∧ c ≤ 57) ∨ c = 46 ∨ c = 95 ∨ c = 45)
/-- a byte that an address may hold -/
def addrB (c : Nat) : Bool := decide (33 ≤ c ∧ c ≤ 126 ∧ ¬ c = 44)

def every (p : Nat → Bool) (s : ByteArray) : Bool := s.data.toList.all fun c => p c.toNat
def inSet (set : ByteArray) (c : Nat) : Bool := set.data.toList.any fun d => d.toNat == c

def validName (s : ByteArray) : Bool := decide (1 ≤ s.size) && decide (s.size ≤ 64) && every nameB s
def validAddr (s : ByteArray) : Bool := decide (1 ≤ s.size) && decide (s.size ≤ 1024) && every addrB s

theorem get_list (s : ByteArray) (k : Nat) (h : k < s.size) : s.data.toList[k]'(by simpa using h) = s[k] := by
  simp; rfl

theorem every_all (p : Nat → Bool) (s : ByteArray) (h : ∀ k (_ : k < s.size), p s[k].toNat = true) : every p s = true := by
  unfold every
  rw [List.all_eq_true]
  intro c hc
  obtain ⟨k, hk, rfl⟩ := List.getElem_of_mem hc
  have hk' : k < s.size := by simpa using hk
  rw [get_list s k hk']
  exact h k hk'

theorem every_at (p : Nat → Bool) (s : ByteArray) (k : Nat) (hk : k < s.size) (h : p s[k].toNat = false) : every p s = false := by
  cases e : every p s
  · rfl
  · unfold every at e
    rw [List.all_eq_true] at e
    have := e s[k] (by rw [← get_list s k hk]; exact List.getElem_mem _)
    rw [h] at this
    cases this

theorem inSet_at (set : ByteArray) (c k : Nat) (hk : k < set.size) (h : set[k].toNat = c) : inSet set c = true := by
  unfold inSet
  rw [List.any_eq_true]
  exact ⟨set[k], by rw [← get_list set k hk]; exact List.getElem_mem _, by simpa using h⟩

theorem inSet_none (set : ByteArray) (c : Nat) (h : ∀ k (_ : k < set.size), ¬ set[k].toNat = c) : inSet set c = false := by
  cases e : inSet set c
  · rfl
  · unfold inSet at e
    rw [List.any_eq_true] at e
    obtain ⟨d, hd, he⟩ := e
    obtain ⟨k, hk, rfl⟩ := List.getElem_of_mem hd
    have hk' : k < set.size := by simpa using hk
    rw [get_list set k hk'] at he
    exact absurd (by simpa using he) (h k hk')

theorem every_congr (p q : Nat → Bool) (s : ByteArray) (h : ∀ c, c < 256 → p c = q c) : every p s = every q s := by
  unfold every
  congr 1
  funext c
  exact h _ c.toNat_lt

theorem every_mono (p q : Nat → Bool) (s : ByteArray) (h : ∀ c, p c = true → q c = true) (g : every p s = true) : every q s = true := by
  unfold every at *
  rw [List.all_eq_true] at *
  intro c hc
  exact h _ (g c hc)

theorem name_addr (c : Nat) (h : nameB c = true) : addrB c = true := by
  simp only [nameB, addrB, decide_eq_true_eq] at *
  omega

theorem valid_name_addr (s : ByteArray) (h : validName s = true) : validAddr s = true := by
  simp only [validName, validAddr, Bool.and_eq_true, decide_eq_true_eq] at *
  exact ⟨⟨h.1.1, by omega⟩, every_mono _ _ s name_addr h.2⟩

end Go.Proofs.Qxb6603344a.Plain
