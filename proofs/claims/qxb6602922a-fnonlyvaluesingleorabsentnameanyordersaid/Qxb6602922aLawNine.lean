/- THE WALK OF FnOnlyValueSingleOrAbsentNameAnyOrder (9) (seat b6602922a). -/
import Derived.Test.Qxb6602922aOpen
namespace Go.Proofs.Qxb6602922a.fnOnlyValueSingleOrAbsentNameAnyOrder
open Go.RowKit Plain
set_option linter.unusedVariables false

set_option maxHeartbeats 2000000 in
theorem walk (a0 : Option Addr) (len cap : Nat) (nm : ByteArray) (N V : Nat → ByteArray) (w : World) (hl : len ≤ maxLen) (hn : nm.size ≤ maxLen) (hp : IsPairs w a0 len N V) (hS : Short len N V) :
    Calls Try.prog 9 #[.slice a0 len cap, .string nm] w fun e w' => e = .returned (.bool true) ∧ Below w.heap.size w w' := by
  have HP : Hid _ := hp
  have HSh : Hid _ := hS
  have HL : Hid _ := hl
  have HN : Hid _ := hn
  clear hp hS hl hn
  go_enter Try.func9, Try.ntmps9
  go_wp2_with fail
  refine (bytes25_any a0 len cap nm N V w HL.out HN.out HP.out HSh.out).mono ?_
  rintro e w0 ⟨⟨r, rfl⟩, rfl⟩
  cases r
  · go_wp2
    go_ret
    exact ⟨rfl, Below.refl _ _⟩
  go_wp2_with fail
  refine (tooBig_any a0 len cap nm N V _ HL.out HN.out HP.out HSh.out).mono ?_
  rintro e _ ⟨⟨r, rfl, hr⟩, n, rfl⟩
  cases r
  rotate_left
  · clear hr
    go_wp2
    go_ret
    exact ⟨rfl, below_drewN (Below.refl _ _) _⟩
  have hs : len ≤ 32768 := hr rfl
  clear hr HL HN HSh
  go_wp2_with fail
  refine (copy_any a0 len cap N V _ hs (pairs_drewN HP.out)).mono ?_
  rintro e w2 ⟨⟨a', rfl, hp2⟩, b2⟩
  have P2 : Hid _ := hp2
  have B2 : Hid (Below _ _ w2) := b2
  clear hp2 b2
  go_wp2_with fail
  refine (callOnly_any a' len len nm N V w2 hs P2.out).mono ?_
  rintro e w3 ⟨⟨g, ok, rfl, hspec⟩, b3⟩
  have P3 : Hid (IsPairs w3 a' len N V) := pairs_below P2.out b3
  have B3 : Hid (Below w2.heap.size w2 w3) := b3
  have HS : Hid _ := hspec
  clear hspec b3 P2 HP
  have BB : Hid (Below w0.heap.size w0 w3) := Below.trans (below_drewN (Below.refl _ _) n) (B2.out.trans (B3.out.mono B2.out.size))
  clear B2 B3
  go_wp2
  go_loop [7, 8, 9, 10] (fun cc oo ff i => ∃ (k c : Nat) (o : ByteArray) (f : Int), k ≤ len ∧ i = .int .i64 k ∧ cc = .int .i64 c ∧ oo = .string o ∧ ff = .int .i64 f ∧ c = cnt N nm k ∧ o = lastV N V nm k ∧ f = firstI N nm k)
    (fun _ _ _ i => len - (intOf i).toNat)
  case atStart => exact ⟨0, 0, _, _, Nat.zero_le _, rfl, rfl, rfl, rfl, rfl, rfl, rfl⟩
  case round =>
    obtain ⟨k, c, o, f, hk, rfl, rfl, rfl, rfl, hc, ho, hf⟩ := hrel
    have hcl : c ≤ k := by rw [hc]; exact cnt_le N nm k
    have hfb : -1 ≤ f ∧ f < k := by rw [hf]; exact firstI_bd N nm k
    obtain ⟨hf1, hf2⟩ := hfb
    have HC : Hid _ := hc
    have HO : Hid _ := ho
    have HF : Hid _ := hf
    clear hc ho hf
    by_cases hlt : k < len
    · obtain ⟨b, off, rfl, hpp⟩ := P3.out (by omega)
      obtain ⟨d0, d1⟩ := hpp k hlt
      clear hpp
      have i1 : (k : Int) < (len : Int) := by omega
      cases hh : hit N nm k
      case true =>
        have HH : Hid _ := hh
        have ht : ((N k).toList == nm.toList) = true := hh
        clear hh
        by_cases hf0 : f < 0
        · go_wp2
          go_round
          case rel => exact ⟨k + 1, c + 1, _, _, by omega, by go_num, by go_num, rfl, rfl, by rw [HC.out]; exact (cnt_hit N nm k HH.out).symm, (lastV_hit N V nm k HH.out).symm, (firstI_new N nm k HH.out (by have := HF.out; omega)).symm⟩
          case measure => simp [intOf]; omega
        · go_wp2
          go_round
          case rel => exact ⟨k + 1, c + 1, _, _, by omega, by go_num, by go_num, rfl, rfl, by rw [HC.out]; exact (cnt_hit N nm k HH.out).symm, (lastV_hit N V nm k HH.out).symm, HF.out.trans (firstI_old N nm k (by have := HF.out; omega)).symm⟩
          case measure => simp [intOf]; omega
      case false =>
        have HH : Hid _ := hh
        have ht : ((N k).toList == nm.toList) = false := hh
        clear hh
        go_wp2
        go_round
        case rel => exact ⟨k + 1, c, _, _, by omega, by go_num, rfl, rfl, rfl, HC.out.trans (cnt_miss N nm k HH.out).symm, HO.out.trans (lastV_miss N V nm k HH.out).symm, HF.out.trans (firstI_miss N nm k HH.out).symm⟩
        case measure => simp [intOf]; omega
    · have hke : k = len := by omega
      have C1 : Hid (c = cnt N nm len) := by have h := HC.out; rw [hke] at h; exact h
      have O1 : Hid (o = lastV N V nm len) := by have h := HO.out; rw [hke] at h; exact h
      have F1 : Hid (f = firstI N nm len) := by have h := HF.out; rw [hke] at h; exact h
      clear hke HC HO HF
      rcases HS.out with ⟨hno, rfl, rfl⟩ | ⟨j, hj, hh, hbf, ⟨h1, h2, rfl, rfl⟩ | ⟨h1, rfl, rfl⟩⟩
      · have c0 : c = 0 := by rw [C1.out]; exact cnt_none N nm len hno
        subst c0
        clear hno HS
        go_wp2
        go_ret
        exact ⟨rfl, BB.out⟩
      · have c2 : 2 ≤ c := by rw [C1.out]; exact cnt_two N nm j len hh h2 h1
        have z0 : ((c : Int) == 0) = false := by rw [beq_eq_false_iff_ne]; omega
        have z1 : ((c : Int) == 1) = false := by rw [beq_eq_false_iff_ne]; omega
        clear hh hbf h1 h2 HS
        go_wp2
        go_ret
        exact ⟨rfl, BB.out⟩
      · have c1 : 1 ≤ c := by rw [C1.out]; exact cnt_pos N nm j len hh hj
        have z0 : ((c : Int) == 0) = false := by rw [beq_eq_false_iff_ne]; omega
        by_cases ce : c = 1
        · have z1 : ((c : Int) == 1) = true := by simp [ce]
          have ol : o = V j := by rw [O1.out]; exact one_last N V nm j hh len hj (by rw [← C1.out]; exact ce)
          have le : ((V j).toList == o.toList) = true := by rw [ol]; simp
          clear hh hbf h1 HS ol ce
          go_wp2
          go_ret
          exact ⟨rfl, BB.out⟩
        · have z1 : ((c : Int) == 1) = false := by rw [beq_eq_false_iff_ne]; omega
          have fe : f = (j : Int) := by rw [F1.out]; exact first_at N nm j hh hbf len hj
          obtain ⟨b, off, rfl, hpp⟩ := P3.out (by omega)
          obtain ⟨d0, d1⟩ := hpp j hj
          have i1 : (j : Int) < (len : Int) := by omega
          clear hh hbf h1 HS hpp ce F1
          subst fe
          have le : ((V j).toList == (V j).toList) = true := by simp
          go_wp2
          go_ret
          exact ⟨rfl, BB.out⟩

end Go.Proofs.Qxb6602922a.fnOnlyValueSingleOrAbsentNameAnyOrder
