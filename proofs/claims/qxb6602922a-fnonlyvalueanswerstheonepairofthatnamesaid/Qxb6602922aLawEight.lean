/- THE WALK OF FnOnlyValueAnswersTheOnePairOfThatName (8) (seat b6602922a). -/
import Derived.Test.Qxb6602922aOpen
namespace Go.Proofs.Qxb6602922a.fnOnlyValueAnswersTheOnePairOfThatName
open Go.RowKit Plain
set_option linter.unusedVariables false

set_option maxHeartbeats 2000000 in
theorem walk (a0 : Option Addr) (len cap : Nat) (nm : ByteArray) (N V : Nat → ByteArray) (w : World) (hl : len ≤ maxLen) (hn : nm.size ≤ maxLen) (hp : IsPairs w a0 len N V) (hS : Short len N V) :
    Calls Try.prog 8 #[.slice a0 len cap, .string nm] w fun e w' => e = .returned (.bool true) ∧ Below w.heap.size w w' := by
  have HP : Hid _ := hp
  have HSh : Hid _ := hS
  have HL : Hid _ := hl
  have HN : Hid _ := hn
  clear hp hS hl hn
  go_enter Try.func8, Try.ntmps8
  go_wp2_with fail
  refine (bytes20_any a0 len cap nm N V w HL.out HN.out HP.out HSh.out).mono ?_
  rintro e w0 ⟨⟨r, rfl⟩, rfl⟩
  cases r
  · go_wp2
    go_ret
    exact ⟨rfl, Below.refl _ _⟩
  go_wp2_with fail
  refine (tooBig_any a0 len cap nm N V _ HL.out HN.out HP.out HSh.out).mono ?_
  rintro e _ ⟨⟨r, rfl, hr⟩, n, rfl⟩
  cases r
  rotate_left
  · clear hr
    go_wp2
    go_ret
    exact ⟨rfl, below_drewN (Below.refl _ _) _⟩
  have hs : len ≤ 32768 := hr rfl
  clear hr HN HSh
  go_wp2_with fail
  refine (sorted_any a0 len cap N V _ HL.out (pairs_drewN HP.out)).mono ?_
  rintro e _ ⟨⟨r, rfl, hr⟩, n1, rfl⟩
  cases r
  · clear hr
    go_wp2
    go_ret
    exact ⟨rfl, below_drewN (Below.refl _ _) _⟩
  have HO : Hid (Sorted N len) := hr rfl
  clear hr HL
  go_wp2_with fail
  refine (copy_any a0 len cap N V _ hs (by exact HP.out)).mono ?_
  rintro e w2 ⟨⟨a', rfl, hp2⟩, b2⟩
  have P2 : Hid _ := hp2
  have B2 : Hid (Below _ _ w2) := b2
  clear hp2 b2
  go_wp2_with fail
  refine (callOnly_any a' len len nm N V w2 hs P2.out).mono ?_
  rintro e w3 ⟨⟨g, ok, rfl, hspec⟩, b3⟩
  have P3 : Hid (IsPairs w3 a' len N V) := pairs_below P2.out b3
  have B3 : Hid (Below w2.heap.size w2 w3) := b3
  have HS : Hid _ := hspec
  clear hspec b3 P2 HP
  have BB : Hid (Below w0.heap.size w0 w3) := Below.trans (below_drewN (Below.refl _ _) (n + n1)) (B2.out.trans (B3.out.mono B2.out.size))
  clear B2 B3
  go_wp2
  go_loop [7, 8, 9] (fun cc oo i => ∃ (k c : Nat) (o : ByteArray), k ≤ len ∧ i = .int .i64 k ∧ cc = .int .i64 c ∧ oo = .string o ∧ c = cnt N nm k ∧ o = lastV N V nm k)
    (fun _ _ i => len - (intOf i).toNat)
  case atStart => exact ⟨0, 0, _, Nat.zero_le _, rfl, rfl, rfl, rfl, rfl⟩
  case round =>
    obtain ⟨k, c, o, hk, rfl, rfl, rfl, hc, ho⟩ := hrel
    have hcl : c ≤ k := by rw [hc]; exact cnt_le N nm k
    have HC : Hid _ := hc
    have HV : Hid _ := ho
    clear hc ho
    by_cases hlt : k < len
    · obtain ⟨b, off, rfl, hpp⟩ := P3.out (by omega)
      obtain ⟨d0, d1⟩ := hpp k hlt
      clear hpp
      have i1 : (k : Int) < (len : Int) := by omega
      cases hh : hit N nm k
      case true =>
        have HH : Hid _ := hh
        have ht : ((N k).toList == nm.toList) = true := hh
        clear hh
        go_wp2
        go_round
        case rel => exact ⟨k + 1, c + 1, _, by omega, by go_num, by go_num, rfl, by rw [HC.out]; exact (cnt_hit N nm k HH.out).symm, (lastV_hit N V nm k HH.out).symm⟩
        case measure => simp [intOf]; omega
      case false =>
        have HH : Hid _ := hh
        have ht : ((N k).toList == nm.toList) = false := hh
        clear hh
        go_wp2
        go_round
        case rel => exact ⟨k + 1, c, _, by omega, by go_num, rfl, rfl, HC.out.trans (cnt_miss N nm k HH.out).symm, HV.out.trans (lastV_miss N V nm k HH.out).symm⟩
        case measure => simp [intOf]; omega
    · have hke : k = len := by omega
      have C1 : Hid (c = cnt N nm len) := by have h := HC.out; rw [hke] at h; exact h
      have O1 : Hid (o = lastV N V nm len) := by have h := HV.out; rw [hke] at h; exact h
      clear hke HC HV
      rcases HS.out with ⟨hno, rfl, rfl⟩ | ⟨j, hj, hh, hbf, ⟨h1, h2, rfl, rfl⟩ | ⟨h1, rfl, rfl⟩⟩
      · have c0 : c = 0 := by rw [C1.out]; exact cnt_none N nm len hno
        subst c0
        clear hno HS
        go_wp2
        go_ret
        exact ⟨rfl, BB.out⟩
      · have c2 : 2 ≤ c := by rw [C1.out]; exact cnt_two N nm j len hh h2 h1
        have z1 : ((c : Int) == 1) = false := by rw [beq_eq_false_iff_ne]; omega
        clear hh hbf h1 h2 HS
        go_wp2
        go_ret
        exact ⟨rfl, BB.out⟩
      · have ce : c = 1 := by rw [C1.out]; exact sorted_one N nm len j HO.out hh hbf h1 hj
        have ol : o = V j := by rw [O1.out]; exact one_last N V nm j hh len hj (by rw [← C1.out]; exact ce)
        have z1 : ((c : Int) == 1) = true := by simp [ce]
        have le : ((V j).toList == o.toList) = true := by rw [ol]; simp
        clear hh hbf h1 HS ol ce
        go_wp2
        go_ret
        exact ⟨rfl, BB.out⟩

end Go.Proofs.Qxb6602922a.fnOnlyValueAnswersTheOnePairOfThatName
