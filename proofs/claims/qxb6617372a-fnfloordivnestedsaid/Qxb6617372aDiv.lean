/-
  THE WALKS of floorDiv, ZZfloorDiv, FnFloorDivShift, FnFloorDivNested.
-/
import Derived.Test.Qxb6617372aRows
import Derived.Test.Qxb6617372aDivPlain
import Derived.WalkKit
import Derived.WalkSpells
import Derived.WalkLawsBesides
namespace Go.Proofs.Qxb6617372a
open Go.RowKit

theorem hide {p : Prop} (h : p) : Hid p := h
theorem ret_int {k : IntKind} {a b : Int} (h : a = b) : Ending.returned (.int k a) = .returned (.int k b) := by rw [h]
theorem ret_bool {a b : Bool} (h : a = b) : Ending.returned (.bool a) = .returned (.bool b) := by rw [h]

set_option maxHeartbeats 400000 in
theorem fdiv0 (a b : Int) (w : World) (hb : 1 ≤ b) (hb2 : b ≤ 4611686018427387904) (ha : -4611686018427387904 ≤ a) (ha2 : a ≤ 4611686018427387904) :
    Calls Try.prog 19 #[.int .i64 a, .int .i64 b] w fun e w' => e = .returned (.int .i64 (a / b)) ∧ w' = w := by
  obtain ⟨t1, t2⟩ := tdiv_bounds hb ha ha2 (by omega) (by omega)
  go_enter Try.func19, Try.ntmps19
  go_wp2
  · go_ret
    exact ⟨ret_int (tdiv_down hb ‹_›), rfl⟩
  · go_ret
    exact ⟨ret_int (tdiv_flat hb ‹_›), rfl⟩

set_option maxHeartbeats 400000 in
theorem fdiv_any (a b : Int) (w : World) (hb : 1 ≤ b) (hb2 : b ≤ 4611686018427387904) (ha : -4611686018427387904 ≤ a) (ha2 : a ≤ 4611686018427387904) :
    Calls Try.prog 16 #[.int .i64 a, .int .i64 b] w fun e w' => e = .returned (.int .i64 (a / b)) ∧ w' = w := by
  have hc := fdiv0 a b w hb hb2 ha ha2
  go_enter Try.func16, Try.ntmps16
  go_wp2_with (go_at_call 19; refine hc.mono ?_; rintro e w' ⟨rfl, rfl⟩)
  go_ret
  exact ⟨rfl, rfl⟩

set_option maxHeartbeats 400000 in
theorem shift_any (a b k : Int) (w : World) :
    Calls Try.prog 6 #[.int .i64 a, .int .i64 b, .int .i64 k] w fun e w' => e = .returned (.bool true) ∧ w' = w := by
  by_cases hb : b < 1
  · have hbd : decide (b < 1) = true := by simpa using hb
    go_enter Try.func6, Try.ntmps6
    go_wp2_with fail
    go_ret
    exact ⟨rfl, rfl⟩
  have hbd : decide (b < 1) = false := by simpa using hb
  by_cases hb2 : 2305843009213693951 < b
  · go_enter Try.func6, Try.ntmps6
    go_wp2_with fail
    go_ret
    exact ⟨rfl, rfl⟩
  have hb2d : decide (2305843009213693951 < b) = false := by simpa using hb2
  by_cases ha : a < -2305843009213693951
  · have had : decide (a < -2305843009213693951) = true := by simpa using ha
    go_enter Try.func6, Try.ntmps6
    go_wp2_with fail
    go_ret
    exact ⟨rfl, rfl⟩
  have had : decide (a < -2305843009213693951) = false := by simpa using ha
  by_cases ha2 : 2305843009213693951 < a
  · go_enter Try.func6, Try.ntmps6
    go_wp2_with fail
    go_ret
    exact ⟨rfl, rfl⟩
  have ha2d : decide (2305843009213693951 < a) = false := by simpa using ha2
  have hb1 : 1 ≤ b := by omega
  have hb1' : 0 < b := by omega
  obtain ⟨z1, z2⟩ := ediv_bounds (a := 2305843009213693951) (L := 0) (U := 2305843009213693951) hb1 (by omega) (by omega) (by omega) (by omega)
  by_cases hk : 2305843009213693951 / b < k
  · have hkd : decide (2305843009213693951 / b < k) = true := by simpa using hk
    go_enter Try.func6, Try.ntmps6
    go_wp2_with fail
    go_ret
    exact ⟨rfl, rfl⟩
  have hkd : decide (2305843009213693951 / b < k) = false := by simpa using hk
  by_cases hk2 : k < -(2305843009213693951 / b)
  · go_enter Try.func6, Try.ntmps6
    go_wp2_with fail
    go_ret
    exact ⟨rfl, rfl⟩
  have hk2d : decide (k < -(2305843009213693951 / b)) = false := by simpa using hk2
  obtain ⟨m1, m2⟩ := mul_within hb1 (show k ≤ 2305843009213693951 / b by omega) (show -(2305843009213693951 / b) ≤ k by omega)
  obtain ⟨q1, q2⟩ := ediv_says (a := a) hb1
  have HS := ediv_shift (a := a) (k := k) hb1
  have hc1 := fdiv_any a b w hb1 (by omega) (by omega) (by omega)
  have hc2 := fdiv_any (a + k * b) b w hb1 (by omega) (by omega) (by omega)
  rw [HS] at hc2
  obtain ⟨e1, e2⟩ := ediv_bounds (a := a) (L := -2305843009213693951) (U := 2305843009213693951) hb1 (by omega) (by omega) (by omega) (by omega)
  clear HS
  generalize a / b = q at q1 q2 hc1 hc2 e1 e2
  have hr1 : ¬ a - q * b < 0 := by omega
  have hr2 : ¬ b ≤ a - q * b := by omega
  have hr1d : decide (a - q * b < 0) = false := by simpa using hr1
  have H1 := hide hc1
  have H2 := hide hc2
  clear hc1 hc2
  go_enter Try.func6, Try.ntmps6
  go_wp2_with fail
  refine H1.out.mono ?_
  rintro e w' ⟨rfl, hw⟩
  obtain rfl := hw.symm
  go_wp2_with fail
  refine H2.out.mono ?_
  rintro e w' ⟨rfl, hw2⟩
  obtain rfl := hw2.symm
  go_wp2_with fail
  go_ret
  exact ⟨ret_bool (by simp), rfl⟩

set_option maxHeartbeats 400000 in
theorem nested_any (a b c : Int) (w : World) :
    Calls Try.prog 7 #[.int .i64 a, .int .i64 b, .int .i64 c] w fun e w' => e = .returned (.bool true) ∧ w' = w := by
  by_cases hb : b < 1
  · have hbd : decide (b < 1) = true := by simpa using hb
    go_enter Try.func7, Try.ntmps7
    go_wp2_with fail
    go_ret
    exact ⟨rfl, rfl⟩
  have hbd : decide (b < 1) = false := by simpa using hb
  by_cases hb2 : 2305843009213693951 < b
  · go_enter Try.func7, Try.ntmps7
    go_wp2_with fail
    go_ret
    exact ⟨rfl, rfl⟩
  have hb2d : decide (2305843009213693951 < b) = false := by simpa using hb2
  have hb1 : 1 ≤ b := by omega
  have hb1' : 0 < b := by omega
  obtain ⟨z1, z2⟩ := ediv_bounds (a := 2305843009213693951) (L := 0) (U := 2305843009213693951) hb1 (by omega) (by omega) (by omega) (by omega)
  by_cases hc : c < 1
  · have hcd : decide (c < 1) = true := by simpa using hc
    go_enter Try.func7, Try.ntmps7
    go_wp2_with fail
    go_ret
    exact ⟨rfl, rfl⟩
  have hcd : decide (c < 1) = false := by simpa using hc
  by_cases hc2 : 2305843009213693951 / b < c
  · go_enter Try.func7, Try.ntmps7
    go_wp2_with fail
    go_ret
    exact ⟨rfl, rfl⟩
  have hc2d : decide (2305843009213693951 / b < c) = false := by simpa using hc2
  by_cases ha : a < -2305843009213693951
  · have had : decide (a < -2305843009213693951) = true := by simpa using ha
    go_enter Try.func7, Try.ntmps7
    go_wp2_with fail
    go_ret
    exact ⟨rfl, rfl⟩
  have had : decide (a < -2305843009213693951) = false := by simpa using ha
  by_cases ha2 : 2305843009213693951 < a
  · go_enter Try.func7, Try.ntmps7
    go_wp2_with fail
    go_ret
    exact ⟨rfl, rfl⟩
  have ha2d : decide (2305843009213693951 < a) = false := by simpa using ha2
  obtain ⟨_, m2⟩ := mul_within hb1 (show c ≤ 2305843009213693951 / b by omega) (show -(2305843009213693951 / b) ≤ c by omega)
  rw [Int.mul_comm] at m2
  have m1 : 1 ≤ b * c := by
    have : 1 * 1 ≤ b * c := Int.mul_le_mul hb1 (show 1 ≤ c by omega) (by omega) (by omega)
    omega
  obtain ⟨q1, q2⟩ := ediv_says (a := a) m1
  have HN := ediv_nest (a := a) (c := c) hb1
  have hc1 := fdiv_any a (b * c) w m1 (by omega) (by omega) (by omega)
  have hc3 := fdiv_any a b w hb1 (by omega) (by omega) (by omega)
  obtain ⟨e1, e2⟩ := ediv_bounds (a := a) (L := -2305843009213693951) (U := 2305843009213693951) hb1 (by omega) (by omega) (by omega) (by omega)
  have hc4 := fdiv_any (a / b) c w (by omega) (by omega) (by omega) (by omega)
  rw [HN] at hc4
  obtain ⟨f1, f2⟩ := ediv_bounds (a := a) (L := -2305843009213693951) (U := 2305843009213693951) m1 (by omega) (by omega) (by omega) (by omega)
  clear HN
  generalize a / b = q' at hc3 hc4 e1 e2
  generalize a / (b * c) = q at q1 q2 hc1 hc4 f1 f2
  have hr1 : ¬ a - q * (b * c) < 0 := by omega
  have hr2 : ¬ b * c ≤ a - q * (b * c) := by omega
  have hr1d : decide (a - q * (b * c) < 0) = false := by simpa using hr1
  have H1 := hide hc1
  have H3 := hide hc3
  have H4 := hide hc4
  clear hc1 hc3 hc4
  go_enter Try.func7, Try.ntmps7
  go_wp2_with fail
  refine H1.out.mono ?_
  rintro e w' ⟨rfl, hw⟩
  obtain rfl := hw.symm
  go_wp2_with fail
  refine H3.out.mono ?_
  rintro e w' ⟨rfl, hw2⟩
  obtain rfl := hw2.symm
  go_wp2_with fail
  refine H4.out.mono ?_
  rintro e w' ⟨rfl, hw3⟩
  obtain rfl := hw3.symm
  go_wp2_with fail
  go_ret
  exact ⟨ret_bool (by simp), rfl⟩

end Go.Proofs.Qxb6617372a
