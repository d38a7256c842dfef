/-
  THE WALK of FnDigitsConcat.
-/
import Derived.Test.Qxb6617372aDig
namespace Go.Proofs.Qxb6617372a
open Go.RowKit

theorem data_append (s t : ByteArray) : (s ++ t).data.toList = s.data.toList ++ t.data.toList := by
  simp [ByteArray.data_append]

def pw (n : Nat) : Int := wrap64 (10 ^ n)
theorem pw_zero : pw 0 = 1 := by unfold pw wrap64; decide
theorem pw_succ (n : Nat) : wrap64 (pw n * 10) = pw (n + 1) := pow_step n

set_option maxHeartbeats 1000000 in
theorem concat_any (s t : ByteArray) (w : World) (hs : s.size ≤ maxLen) (ht : t.size ≤ maxLen) :
    Calls Try.prog 5 #[.string s, .string t] w fun e w' => e = .returned (.bool true) ∧ Below w.heap.size w w' := by
  have hz := hide (zzbytes5 s t w hs ht)
  go_enter Try.func5, Try.ntmps5
  go_wp2_with fail
  refine hz.out.mono ?_
  rintro e w' ⟨⟨tb, rfl⟩, hw⟩
  obtain rfl := hw.symm
  clear hw hz
  cases tb
  · go_wp2_with fail
    go_ret
    exact ⟨rfl, Below.refl _ _⟩
  by_cases h1 : (524288 : Int) < s.size
  · have h1d : decide ((524288 : Int) < s.size) = true := by simpa using h1
    go_wp2_with fail
    go_ret
    exact ⟨rfl, Below.refl _ _⟩
  have h1d : decide ((524288 : Int) < s.size) = false := by simpa using h1
  by_cases h2 : (524288 : Int) < t.size
  · go_wp2_with fail
    go_ret
    exact ⟨rfl, Below.refl _ _⟩
  have h2d : decide ((524288 : Int) < t.size) = false := by simpa using h2
  go_wp2_with fail
  have hst : (s ++ t).size ≤ maxLen := by rw [ByteArray.size_append]; unfold maxLen; omega
  have HD := hide (digits_any (s ++ t) w hst)
  rw [data_append, alld_append] at HD
  have hlt' : t.data.toList.length = t.size := by simp
  have happ : alld s.data.toList = true → alld t.data.toList = true → dnum (s.data.toList ++ t.data.toList) = wrap64 (wrap64 (dnum s.data.toList * pw t.size) + dnum t.data.toList) := fun a b => by
    rw [dnum_yes a, dnum_yes b, dnum_yes (by rw [alld_append, a, b]; rfl), ← hlt']
    exact dval_append _ _
  have HDs : Hid (∀ wx, Calls Try.prog 11 #[.string s] wx fun e w' => e = .returned (.tuple #[.int .i64 (dnum s.data.toList), .bool (alld s.data.toList)]) ∧ Below wx.heap.size wx w') := fun wx => digits_any s wx hs
  have HDt : Hid (∀ wx, Calls Try.prog 11 #[.string t] wx fun e w' => e = .returned (.tuple #[.int .i64 (dnum t.data.toList), .bool (alld t.data.toList)]) ∧ Below wx.heap.size wx w') := fun wx => digits_any t wx ht
  have HAs : Hid (∀ wx, Calls Try.prog 15 #[.string s] wx fun e w' => e = .returned (.bool (alld s.data.toList)) ∧ w' = wx) := fun wx => alldigits_any s wx hs
  have HAt : Hid (∀ wx, Calls Try.prog 15 #[.string t] wx fun e w' => e = .returned (.bool (alld t.data.toList)) ∧ w' = wx) := fun wx => alldigits_any t wx ht
  have hs0 : alld s.data.toList = false → dnum s.data.toList = 0 := dnum_no
  have ht0 : alld t.data.toList = false → dnum t.data.toList = 0 := dnum_no
  have hst0 : (alld s.data.toList && alld t.data.toList) = false → dnum (s.data.toList ++ t.data.toList) = 0 := fun h => dnum_no (by rw [alld_append]; exact h)
  generalize dnum (s.data.toList ++ t.data.toList) = dst at HD happ hst0
  generalize dnum s.data.toList = ds at HDs happ hs0
  generalize dnum t.data.toList = dt at HDt happ ht0
  clear hlt'
  cases ha : alld s.data.toList
  · rw [ha] at HD HDs HAs hs0 happ hst0
    have e1 := hs0 rfl
    have e2 := hst0 rfl
    subst e1 e2
    clear hs0 happ hst0 ha
    cases hb : alld t.data.toList
    · rw [hb] at HD HDt HAt ht0
      have e3 := ht0 rfl
      subst e3
      clear ht0 hb
      refine HD.out.mono ?_
      rintro e w1 ⟨rfl, hb1⟩
      go_wp2_with fail
      refine (HDs.out _).mono ?_
      rintro e w2 ⟨rfl, hb2⟩
      go_wp2_with fail
      refine (HDt.out _).mono ?_
      rintro e w3 ⟨rfl, hb3⟩
      have hbe := (hb1.trans (hb2.mono hb1.size)).trans (hb3.mono (Nat.le_trans hb1.size hb2.size))
      go_wp2_with fail
      refine (HAs.out _).mono ?_
      rintro e w4 ⟨rfl, hw4⟩
      obtain rfl := hw4.symm
      go_wp2_with fail
      refine (HAt.out _).mono ?_
      rintro e w5 ⟨rfl, hw5⟩
      obtain rfl := hw5.symm
      go_wp2_with fail
      go_ret
      exact ⟨rfl, hbe⟩
    · rw [hb] at HD HDt HAt
      clear ht0 hb
      refine HD.out.mono ?_
      rintro e w1 ⟨rfl, hb1⟩
      go_wp2_with fail
      refine (HDs.out _).mono ?_
      rintro e w2 ⟨rfl, hb2⟩
      go_wp2_with fail
      refine (HDt.out _).mono ?_
      rintro e w3 ⟨rfl, hb3⟩
      have hbe := (hb1.trans (hb2.mono hb1.size)).trans (hb3.mono (Nat.le_trans hb1.size hb2.size))
      go_wp2_with fail
      refine (HAs.out _).mono ?_
      rintro e w4 ⟨rfl, hw4⟩
      obtain rfl := hw4.symm
      go_wp2_with fail
      refine (HAt.out _).mono ?_
      rintro e w5 ⟨rfl, hw5⟩
      obtain rfl := hw5.symm
      go_wp2_with fail
      go_ret
      exact ⟨rfl, hbe⟩
  · rw [ha] at HD HDs HAs happ hst0
    clear hs0 ha
    cases hb : alld t.data.toList
    · rw [hb] at HD HDt HAt ht0 hst0
      have e3 := ht0 rfl
      have e2 := hst0 rfl
      subst e3 e2
      clear ht0 happ hst0 hb
      refine HD.out.mono ?_
      rintro e w1 ⟨rfl, hb1⟩
      go_wp2_with fail
      refine (HDs.out _).mono ?_
      rintro e w2 ⟨rfl, hb2⟩
      go_wp2_with fail
      refine (HDt.out _).mono ?_
      rintro e w3 ⟨rfl, hb3⟩
      have hbe := (hb1.trans (hb2.mono hb1.size)).trans (hb3.mono (Nat.le_trans hb1.size hb2.size))
      go_wp2_with fail
      refine (HAs.out _).mono ?_
      rintro e w4 ⟨rfl, hw4⟩
      obtain rfl := hw4.symm
      go_wp2_with fail
      refine (HAt.out _).mono ?_
      rintro e w5 ⟨rfl, hw5⟩
      obtain rfl := hw5.symm
      go_wp2_with fail
      go_ret
      exact ⟨rfl, hbe⟩
    · rw [hb] at HD HDt HAt happ
      have HP := hide (happ rfl rfl)
      clear ht0 hst0 happ hb
      refine HD.out.mono ?_
      rintro e w1 ⟨rfl, hb1⟩
      go_wp2_with fail
      refine (HDs.out _).mono ?_
      rintro e w2 ⟨rfl, hb2⟩
      go_wp2_with fail
      refine (HDt.out _).mono ?_
      rintro e w3 ⟨rfl, hb3⟩
      have hbe := (hb1.trans (hb2.mono hb1.size)).trans (hb3.mono (Nat.le_trans hb1.size hb2.size))
      go_wp2_with fail
      refine (HAs.out _).mono ?_
      rintro e w4 ⟨rfl, hw4⟩
      obtain rfl := hw4.symm
      go_wp2_with fail
      refine (HAt.out _).mono ?_
      rintro e w5 ⟨rfl, hw5⟩
      obtain rfl := hw5.symm
      go_wp2_with fail
      go_loop [11, 12] (fun p i => ∃ k : Nat, k ≤ t.size ∧ i = .int .i64 k ∧ p = .int .i64 (pw k)) (fun _ i => t.size - (intOf i).toNat)
      case atStart => exact ⟨0, Nat.zero_le _, rfl, by rw [pw_zero]⟩
      case round =>
        obtain ⟨k, hk, rfl, rfl⟩ := hrel
        have HS := hide (pw_succ k)
        by_cases hlt : k < t.size
        · generalize pw k = p at HS ⊢
          go_wp2_with fail
          go_round
          case rel => exact ⟨k + 1, by omega, by go_num, by rw [HS.out]⟩
          case measure => simp [intOf]; omega
        · have hkt : k = t.size := by omega
          rw [← hkt] at HP
          clear hkt
          generalize pw k = p at HP ⊢
          go_wp2_with fail
          go_ret
          exact ⟨ret_bool (by rw [← HP.out]; simp), hbe⟩

end Go.Proofs.Qxb6617372a
