/-
  PLAIN LAWS ON DECIMAL DIGITS AND ON 64-BIT WRAPPING. No Go in this text.
-/
import Derived.RowKit
namespace Go.Proofs.Qxb6617372a
open Go.RowKit

theorem wrap_congr {a b : Int} (h : ∃ q : Int, a = b + 18446744073709551616 * q) : wrap64 a = wrap64 b := by
  obtain ⟨q, rfl⟩ := h
  unfold wrap64
  rw [show b + 18446744073709551616 * q + 9223372036854775808 = (b + 9223372036854775808) + 18446744073709551616 * q by omega, Int.add_mul_emod_self_left]
theorem wrap_is (a : Int) : ∃ q : Int, wrap64 a = a + 18446744073709551616 * q := by
  refine ⟨-((a + 9223372036854775808) / 18446744073709551616), ?_⟩
  unfold wrap64
  have := Int.emod_add_mul_ediv (a + 9223372036854775808) 18446744073709551616
  omega
theorem wrap_add (a b : Int) : wrap64 (wrap64 a + wrap64 b) = wrap64 (a + b) := by
  obtain ⟨p, hp⟩ := wrap_is a
  obtain ⟨q, hq⟩ := wrap_is b
  refine wrap_congr ⟨p + q, ?_⟩
  rw [hp, hq, Int.mul_add]; omega
theorem wrap_add_left (a b : Int) : wrap64 (wrap64 a + b) = wrap64 (a + b) := by
  obtain ⟨p, hp⟩ := wrap_is a
  refine wrap_congr ⟨p, ?_⟩
  rw [hp]; omega
theorem wrap_mul (a b : Int) : wrap64 (wrap64 a * wrap64 b) = wrap64 (a * b) := by
  obtain ⟨p, hp⟩ := wrap_is a
  obtain ⟨q, hq⟩ := wrap_is b
  refine wrap_congr ⟨a * q + p * b + p * (18446744073709551616 * q), ?_⟩
  rw [hp, hq, Int.add_mul, Int.mul_add, Int.mul_add, Int.mul_add, Int.mul_add, ← Int.mul_assoc a, Int.mul_comm a 18446744073709551616, Int.mul_assoc, Int.mul_assoc, Int.mul_assoc]
  omega
theorem wrap_mul_left (a b : Int) : wrap64 (wrap64 a * b) = wrap64 (a * b) := by
  obtain ⟨p, hp⟩ := wrap_is a
  refine wrap_congr ⟨p * b, ?_⟩
  rw [hp, Int.add_mul, Int.mul_assoc]
theorem wrap_wrap (a : Int) : wrap64 (wrap64 a) = wrap64 a := by
  obtain ⟨p, hp⟩ := wrap_is a
  exact wrap_congr ⟨p, hp⟩

/-- A digit. -/
def isDig (c : UInt8) : Bool := decide (48 ≤ (c.toNat : Int)) && decide ((c.toNat : Int) ≤ 57)
def alld (l : List UInt8) : Bool := l.all isDig
/-- The number that digits write. -/
def num (l : List UInt8) : Int := l.foldl (fun n c => n * 10 + ((c.toNat : Int) - 48)) 0
/-- What 'digits' reckons. -/
def dval (l : List UInt8) : Int := wrap64 (num l)

/-- .. and answers: nought where a byte is no digit. -/
def dnum (l : List UInt8) : Int := if alld l = true then dval l else 0
theorem dnum_yes {l : List UInt8} (h : alld l = true) : dnum l = dval l := if_pos h
theorem dnum_no {l : List UInt8} (h : alld l = false) : dnum l = 0 := if_neg (by rw [h]; simp)
theorem dval_nil : dval [] = 0 := by unfold dval num wrap64; decide
theorem num_snoc (l : List UInt8) (c : UInt8) : num (l ++ [c]) = num l * 10 + ((c.toNat : Int) - 48) := by simp [num]
theorem dval_snoc (l : List UInt8) (c : UInt8) : dval (l ++ [c]) = wrap64 (wrap64 (dval l * 10) + ((c.toNat : Int) - 48)) := by
  unfold dval
  rw [num_snoc, wrap_mul_left, wrap_add_left]
theorem num_fold (l : List UInt8) (n : Int) : l.foldl (fun n c => n * 10 + ((c.toNat : Int) - 48)) n = n * 10 ^ l.length + num l := by
  induction l generalizing n with
  | nil => simp [num]
  | cons c l ih =>
    have e1 : num (c :: l) = ((c.toNat : Int) - 48) * 10 ^ l.length + num l := by
      show l.foldl _ (0 * 10 + ((c.toNat : Int) - 48)) = _
      rw [ih]; simp
    rw [List.foldl_cons, ih, e1, List.length_cons, Int.pow_succ, Int.add_mul, Int.mul_assoc, Int.mul_comm 10]
    omega
theorem num_append (s t : List UInt8) : num (s ++ t) = num s * 10 ^ t.length + num t := by
  unfold num
  rw [List.foldl_append]
  exact num_fold t _
theorem alld_append (s t : List UInt8) : alld (s ++ t) = (alld s && alld t) := by simp [alld]
/-- The law of FnDigitsConcat. -/
theorem dval_append (s t : List UInt8) : dval (s ++ t) = wrap64 (wrap64 (dval s * wrap64 (10 ^ t.length)) + dval t) := by
  unfold dval
  rw [num_append, wrap_mul, wrap_add]
theorem pow_step (n : Nat) : wrap64 (wrap64 (10 ^ n) * 10) = wrap64 (10 ^ (n + 1)) := by
  rw [wrap_mul_left, Int.pow_succ]

theorem take_snoc {l : List UInt8} {k : Nat} {c : UInt8} (h : l[k]? = some c) : l.take (k + 1) = l.take k ++ [c] := by
  rw [List.take_add_one, h]; rfl
theorem alld_snoc (l : List UInt8) (c : UInt8) : alld (l ++ [c]) = (alld l && isDig c) := by simp [alld]
theorem alld_no {l : List UInt8} {k : Nat} {c : UInt8} (h : l[k]? = some c) (hc : isDig c = false) : alld l = false := by
  unfold alld
  rw [List.all_eq_false]
  exact ⟨c, List.mem_of_getElem? h, by simp [hc]⟩

end Go.Proofs.Qxb6617372a
