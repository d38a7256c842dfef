/-
  THE WALKS of digits, ZZdigits, zzAllDigits, zzBytes_FnDigitsConcat.
-/
import Derived.Test.Qxb6617372aRows
import Derived.Test.Qxb6617372aDigPlain
import Derived.WalkKit
import Derived.WalkSpells
import Derived.WalkLawsBesides
import Derived.Lib.ConvBytes
namespace Go.Proofs.Qxb6617372a
open Go.RowKit

theorem hide {p : Prop} (h : p) : Hid p := h
theorem ret_bool {a b : Bool} (h : a = b) : Ending.returned (.bool a) = .returned (.bool b) := by rw [h]
theorem ret_two {n m : Int} {a b : Bool} (h1 : n = m) (h2 : a = b) : Ending.returned (.tuple #[.int .i64 n, .bool a]) = .returned (.tuple #[.int .i64 m, .bool b]) := by rw [h1, h2]
def SomeBool (e : Ending) : Prop := ∃ t : Bool, e = .returned (.bool t)
theorem someBool {t : Bool} {e : Ending} (h : e = .returned (.bool t)) : SomeBool e := ⟨t, h⟩

/-- '[]byte(s)': what the walk goes on in. -/
theorem bytes_world (w : World) (s : ByteArray) : ∃ w1 cap, (convert 9 22 (.string s)).run Try.prog w = .ok (.slice (some ⟨w.heap.size, 0, none⟩) s.size cap) w1 ∧ Below w.heap.size w w1 ∧
    ∀ j c, s.data.toList[j]? = some c → w1.cell? ⟨w.heap.size, j, none⟩ = some (.int .u8 (c.toNat : Int)) := by
  refine ⟨_, _, Lib.run_convert_string_bytes w 9 22 5 s Try.underlying9 Try.underlying22 Try.underlying5, ⟨rfl, rfl, rfl, ?_, fun k hk => Lib.bytesWorld_at_old w 5 s k hk⟩, fun j c hc => ?_⟩
  · rw [Lib.bytesWorld_size]; exact Nat.le_succ _
  · have hj : j < s.size := by have := (List.getElem?_eq_some_iff.1 hc).1; simpa using this
    rw [Lib.bytesWorld_cell w 5 s j hj]
    simp [List.getD, hc]

set_option maxHeartbeats 400000 in
theorem digits0 (s : ByteArray) (w : World) (hs : s.size ≤ maxLen) :
    Calls Try.prog 18 #[.string s] w fun e w' => e = .returned (.tuple #[.int .i64 (dnum s.data.toList), .bool (alld s.data.toList)]) ∧ Below w.heap.size w w' := by
  unfold maxLen at hs
  obtain ⟨w1, cap, hconv, hb, hc⟩ := bytes_world w s
  have hl : s.data.toList.length = s.size := by simp
  go_enter Try.func18, Try.ntmps18
  go_wp2
  go_loop [4, 10] (fun n i => ∃ k : Nat, k ≤ s.size ∧ i = .int .i64 k ∧ n = .int .i64 (dval (s.data.toList.take k)) ∧ alld (s.data.toList.take k) = true) (fun _ i => s.size - (intOf i).toNat)
  case atStart => exact ⟨0, Nat.zero_le _, rfl, by rw [List.take_zero, dval_nil], rfl⟩
  case round =>
    obtain ⟨k, hk, rfl, rfl, hall⟩ := hrel
    have HA := hide hall
    have HB := hide hb
    have HL := hide hl
    clear hall hb hl hconv
    by_cases hlt : k < s.size
    · obtain ⟨c, hx⟩ : ∃ c, s.data.toList[k]? = some c := ⟨_, List.getElem?_eq_getElem (by rw [HL.out]; exact hlt)⟩
      have hcell := hc k c hx
      have HX := hide hx
      have hc1 : 0 ≤ (c.toNat : Int) := by omega
      have hc2 : (c.toNat : Int) ≤ 255 := by have := c.toNat_lt; omega
      have HS := hide (dval_snoc (s.data.toList.take k) c)
      generalize dval (s.data.toList.take k) = n at HS ⊢
      generalize hcn : (c.toNat : Int) = cn at hcell hc1 hc2 HS
      have HC := hide hcn
      clear hc hx hcn
      by_cases hlo : cn < 48
      · have hlod : decide (cn < 48) = true := by simpa using hlo
        go_wp2
        go_ret2
        have hno : alld s.data.toList = false := alld_no HX.out (by unfold isDig; rw [HC.out]; simp; omega)
        exact ⟨ret_two (dnum_no hno).symm hno.symm, HB.out⟩
      have hlod : decide (cn < 48) = false := by simpa using hlo
      by_cases hhi : 57 < cn
      · go_wp2
        go_ret2
        have hno : alld s.data.toList = false := alld_no HX.out (by unfold isDig; rw [HC.out]; simp; omega)
        exact ⟨ret_two (dnum_no hno).symm hno.symm, HB.out⟩
      have hhid : decide (57 < cn) = false := by simpa using hhi
      go_wp2
      go_round
      case rel => exact ⟨k + 1, by omega, by go_num, by rw [take_snoc HX.out, HS.out], by rw [take_snoc HX.out, alld_snoc, HA.out]; unfold isDig; rw [HC.out]; simp; omega⟩
      case measure => simp [intOf]; omega
    · go_wp2
      go_ret2
      have ht : s.data.toList.take k = s.data.toList := List.take_of_length_le (by rw [HL.out]; omega)
      have ha : alld s.data.toList = true := by rw [← ht]; exact HA.out
      exact ⟨ret_two (by rw [dnum_yes ha, ht]) ha.symm, HB.out⟩

set_option maxHeartbeats 400000 in
theorem digits_any (s : ByteArray) (w : World) (hs : s.size ≤ maxLen) :
    Calls Try.prog 11 #[.string s] w fun e w' => e = .returned (.tuple #[.int .i64 (dnum s.data.toList), .bool (alld s.data.toList)]) ∧ Below w.heap.size w w' := by
  have hc := digits0 s w hs
  go_enter Try.func11, Try.ntmps11
  go_wp2_with fail
  refine hc.mono ?_
  rintro e w' ⟨rfl, hb⟩
  go_wp2_with fail
  go_ret2
  exact ⟨rfl, hb⟩

set_option maxHeartbeats 400000 in
theorem alldigits_any (s : ByteArray) (w : World) (hs : s.size ≤ maxLen) :
    Calls Try.prog 15 #[.string s] w fun e w' => e = .returned (.bool (alld s.data.toList)) ∧ w' = w := by
  unfold maxLen at hs
  have hl : s.data.toList.length = s.size := by simp
  have HL := hide hl
  clear hl
  go_enter Try.func15, Try.ntmps15
  go_wp2
  go_loop [3] (fun i => ∃ k : Nat, k ≤ s.size ∧ i = .int .i64 k ∧ alld (s.data.toList.take k) = true) (fun i => s.size - (intOf i).toNat)
  case atStart => exact ⟨0, Nat.zero_le _, rfl, rfl⟩
  case round =>
    obtain ⟨k, hk, rfl, hall⟩ := hrel
    have HA := hide hall
    clear hall
    by_cases hlt : k < s.size
    · obtain ⟨c, hx⟩ : ∃ c, s.data.toList[k]? = some c := ⟨_, List.getElem?_eq_getElem (by rw [HL.out]; exact hlt)⟩
      have HX := hide hx
      have hsk : Hid (s[k] = c) := by
        have h2 : s.data.toList[k]? = some s[k] := by rw [List.getElem?_eq_getElem (by rw [HL.out]; exact hlt)]; rfl
        rw [hx] at h2
        injection h2 with h2
        exact h2.symm
      clear hx
      have hc1 : 0 ≤ (s[k].toNat : Int) := by omega
      have hc2 : (s[k].toNat : Int) ≤ 255 := by have := s[k].toNat_lt; omega
      by_cases hlo : (s[k].toNat : Int) < 48
      · have hlod : decide ((s[k].toNat : Int) < 48) = true := by simpa using hlo
        go_wp2
        go_ret
        exact ⟨ret_bool (alld_no HX.out (by rw [← hsk.out]; unfold isDig; simp; omega)).symm, rfl⟩
      have hlod : decide ((s[k].toNat : Int) < 48) = false := by simpa using hlo
      by_cases hhi : 57 < (s[k].toNat : Int)
      · have hhid : decide (57 < (s[k].toNat : Int)) = true := by simpa using hhi
        go_wp2
        go_ret
        exact ⟨ret_bool (alld_no HX.out (by rw [← hsk.out]; unfold isDig; simp; omega)).symm, rfl⟩
      have hhid : decide (57 < (s[k].toNat : Int)) = false := by simpa using hhi
      go_wp2
      go_round
      case rel => exact ⟨k + 1, by omega, by go_num, by rw [take_snoc HX.out, alld_snoc, HA.out, ← hsk.out]; unfold isDig; simp; omega⟩
      case measure => simp [intOf]; omega
    · go_wp2
      go_ret
      have ht : s.data.toList.take k = s.data.toList := List.take_of_length_le (by rw [HL.out]; omega)
      exact ⟨ret_bool (by rw [← ht]; exact HA.out.symm), rfl⟩

set_option maxHeartbeats 400000 in
theorem zzbytes5 (s t : ByteArray) (w : World) (hs : s.size ≤ maxLen) (ht : t.size ≤ maxLen) :
    Calls Try.prog 14 #[.string s, .string t] w fun e w' => SomeBool e ∧ w' = w := by
  unfold maxLen at hs ht
  go_enter Try.func14, Try.ntmps14
  go_wp2
  all_goals
    go_ret
    exact ⟨someBool rfl, rfl⟩

end Go.Proofs.Qxb6617372a
