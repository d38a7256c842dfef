/-
  PLAIN LAWS ON THE LAST DECIMAL DIGITS OF A NUMBER. No Go in this text.
-/
import Derived.Test.Qxb6617372aDigPlain
namespace Go.Proofs.Qxb6617372a
open Go.RowKit

/-- The digit at 10^i, as a byte. -/
def digB (x i : Nat) : UInt8 := UInt8.ofNat (48 + x / 10 ^ i % 10)
/-- The last n digits, the highest first. -/
def sfx (x : Nat) : Nat → List UInt8
  | 0 => []
  | n + 1 => digB x n :: sfx x n

theorem digB_toNat (x i : Nat) : (digB x i).toNat = 48 + x / 10 ^ i % 10 := by
  unfold digB
  have : x / 10 ^ i % 10 < 10 := Nat.mod_lt _ (by omega)
  rw [UInt8.toNat_ofNat']
  omega
theorem digB_bounds (x i : Nat) : 48 ≤ (digB x i).toNat ∧ (digB x i).toNat ≤ 57 := by
  rw [digB_toNat]
  have : x / 10 ^ i % 10 < 10 := Nat.mod_lt _ (by omega)
  omega
theorem sfx_length (x n : Nat) : (sfx x n).length = n := by
  induction n with
  | zero => rfl
  | succ n ih => simp [sfx, ih]
theorem digB_shift (x n i : Nat) : digB (x / 10 ^ n) i = digB x (i + n) := by
  unfold digB
  rw [Nat.div_div_eq_div_mul, ← Nat.pow_add, Nat.add_comm n i]
theorem sfx_split (x m n : Nat) : sfx x (m + n) = sfx (x / 10 ^ n) m ++ sfx x n := by
  induction m with
  | zero => simp [sfx]
  | succ m ih => rw [Nat.succ_add]; simp only [sfx, List.cons_append]; rw [ih, digB_shift]
theorem digB_mod {x n i : Nat} (h : i < n) : digB (x % 10 ^ n) i = digB x i := by
  unfold digB
  have e : 10 ^ n = 10 ^ i * 10 ^ (n - i) := by rw [← Nat.pow_add]; congr 1; omega
  rw [e, Nat.mod_mul_right_div_self, Nat.mod_mod_of_dvd]
  exact ⟨10 ^ (n - i - 1), by rw [← Nat.pow_succ']; congr 1; omega⟩
theorem sfx_mod_le {x n j : Nat} (h : j ≤ n) : sfx (x % 10 ^ n) j = sfx x j := by
  induction j with
  | zero => rfl
  | succ j ih => simp only [sfx]; rw [ih (by omega), digB_mod (by omega)]
theorem sfx_mod (x n : Nat) : sfx (x % 10 ^ n) n = sfx x n := sfx_mod_le (Nat.le_refl _)
theorem big_pow {x n : Nat} (hx : x ≤ 9223372036854775807) (hn : 19 ≤ n) : x < 10 ^ n := by
  have : 10 ^ 19 ≤ 10 ^ n := Nat.pow_le_pow_right (by omega) hn
  have e : (10 : Nat) ^ 19 = 10000000000000000000 := by decide
  omega

/-- The law of FnAppendDigitsSplit: a quotient and a remainder that fit, or a power that no int bears. -/
def hiOf (x n : Nat) : Nat := if n ≤ 18 then x / 10 ^ n else 0
def loOf (x n : Nat) : Nat := if n ≤ 18 then x % 10 ^ n else x
theorem split_law {x : Nat} (hx : x ≤ 9223372036854775807) (m n : Nat) : sfx x (m + n) = sfx (hiOf x n) m ++ sfx (loOf x n) n := by
  unfold hiOf loOf
  rw [sfx_split]
  split
  · rw [sfx_mod]
  · rw [Nat.div_eq_of_lt (big_pow hx (by omega))]

theorem sfx_dig (x n : Nat) : ∀ c ∈ sfx x n, 48 ≤ c.toNat ∧ c.toNat ≤ 57 := by
  induction n with
  | zero => intro c hc; cases hc
  | succ n ih =>
    intro c hc
    rcases List.mem_cons.1 hc with rfl | hc
    · exact digB_bounds x n
    · exact ih c hc
theorem alld_sfx (x n : Nat) : alld (sfx x n) = true := by
  unfold alld
  rw [List.all_eq_true]
  intro c hc
  have := sfx_dig x n c hc
  unfold isDig
  simp
  omega
theorem num_cons (c : UInt8) (l : List UInt8) : num (c :: l) = ((c.toNat : Int) - 48) * 10 ^ l.length + num l := by
  show l.foldl _ (0 * 10 + ((c.toNat : Int) - 48)) = _
  rw [num_fold]; simp
theorem num_sfx (x n : Nat) : num (sfx x n) = ((x % 10 ^ n : Nat) : Int) := by
  induction n with
  | zero => simp [sfx, num, Nat.mod_one]
  | succ n ih =>
    rw [sfx, num_cons, ih, sfx_length, digB_toNat, Nat.mod_pow_succ]
    have e : ((48 + x / 10 ^ n % 10 : Nat) : Int) - 48 = ((x / 10 ^ n % 10 : Nat) : Int) := by omega
    have e2 : ((10 ^ n : Nat) : Int) = (10 : Int) ^ n := by simp
    rw [e, Int.natCast_add, Int.natCast_mul, e2, Int.mul_comm, Int.add_comm]
theorem dval_sfx {x n : Nat} (hx : x ≤ 9223372036854775807) : dval (sfx x n) = ((x % 10 ^ n : Nat) : Int) := by
  unfold dval
  rw [num_sfx]
  have : x % 10 ^ n ≤ x := Nat.mod_le _ _
  unfold wrap64
  omega
/-- The law of FnAppendDigitsThenDigits. -/
theorem then_law {x n : Nat} (hx : x ≤ 9223372036854775807) : dval (sfx x n) = ((loOf x n : Nat) : Int) := by
  rw [dval_sfx hx]
  unfold loOf
  split
  · rfl
  · rw [Nat.mod_eq_of_lt (big_pow hx (by omega))]

/-- What stands in the row when j of the n digits are written, from the last on. -/
def part (l : List UInt8) (x n j : Nat) : List UInt8 := l ++ (List.replicate (n - j) 0 ++ sfx x j)
theorem part_length {l : List UInt8} {x n j : Nat} (h : j ≤ n) : (part l x n j).length = l.length + n := by
  simp [part, sfx_length]; omega
theorem part_zero (l : List UInt8) (x n : Nat) : part l x n 0 = l ++ List.replicate n 0 := by simp [part, sfx]
theorem part_all (l : List UInt8) (x n : Nat) : part l x n n = l ++ sfx x n := by simp [part]
theorem part_set {l : List UInt8} {x n j p : Nat} (h : j < n) (hp : p + 1 + j = l.length + n) : (part l x n j).set p (digB x j) = part l x n (j + 1) := by
  unfold part
  have e : p = l.length + (n - j - 1) := by omega
  have e2 : n - j = (n - j - 1) + 1 := by omega
  rw [e, List.set_append_right _ _ (by omega), Nat.add_sub_cancel_left]
  rw [show n - (j + 1) = n - j - 1 by omega]
  rw [e2, List.replicate_succ', List.append_assoc, List.set_append_right _ _ (by simp)]
  simp [sfx]
theorem last_sfx {l : List UInt8} {x n : Nat} (h : 0 < n) : (l ++ sfx x n)[l.length + n - 1]? = some (digB x 0) := by
  have : sfx x n = sfx (x / 10 ^ 1) (n - 1) ++ sfx x 1 := by
    have := sfx_split x (n - 1) 1
    rwa [show n - 1 + 1 = n by omega] at this
  rw [List.getElem?_append_right (by omega), this, List.getElem?_append_right (by rw [sfx_length]; omega), sfx_length]
  rw [show l.length + n - 1 - l.length - (n - 1) = 0 by omega]
  rfl

end Go.Proofs.Qxb6617372a
