/- allInSetB1 (9) AT A SET THAT IS KNOWN TO BE A CLASS OF BYTES (seat b6603344a). -/
import Derived.Test.Qxb6603344aWalk
namespace Go.Proofs.Qxb6603344a
open Go.RowKit Plain

theorem allIn_as (p : Nat → Bool) (s set : ByteArray) (hs : s.size ≤ maxLen) (ht : set.size ≤ maxLen) (hp : ∀ c : Fin 256, inSet set c.val = p c.val) (w : World) :
    Calls Try.prog 9 #[.string s, .string set] w fun e w' => e = .returned (.bool (every p s)) ∧ w' = w := by
  refine (allIn_any s set hs ht w).mono ?_
  rintro e w' ⟨rfl, rfl⟩
  exact ⟨ret_bool (every_congr _ _ s fun c hc => hp ⟨c, hc⟩), rfl⟩

theorem name_short (s : ByteArray) (h : ¬ 1 ≤ s.size) : validName s = false := by simp [validName, h]
theorem name_long (s : ByteArray) (h : ¬ s.size ≤ 64) : validName s = false := by simp [validName, h]
theorem name_mid (s : ByteArray) (h1 : 1 ≤ s.size) (h2 : s.size ≤ 64) : validName s = every nameB s := by simp [validName, h1, h2]
theorem addr_short (s : ByteArray) (h : ¬ 1 ≤ s.size) : validAddr s = false := by simp [validAddr, h]
theorem addr_long (s : ByteArray) (h : ¬ s.size ≤ 1024) : validAddr s = false := by simp [validAddr, h]
theorem addr_mid (s : ByteArray) (h1 : 1 ≤ s.size) (h2 : s.size ≤ 1024) : validAddr s = every addrB s := by simp [validAddr, h1, h2]

end Go.Proofs.Qxb6603344a
