/-
  THE WALKS of the two byte guards: zzBytes_FnLabelsAddRequiredKeysOnceInFirstOrder, reqsTooBig.
-/
import Derived.Test.Qxb6617295aWalkA
namespace Go.Proofs.Qxb6617295a
open Go.RowKit

def SomeBool (e : Ending) : Prop := ∃ t : Bool, e = .returned (.bool t)
theorem someBool {t : Bool} {e : Ending} (h : e = .returned (.bool t)) : SomeBool e := ⟨t, h⟩

set_option maxRecDepth 8000 in
set_option maxHeartbeats 1000000 in
theorem zzbytes_any (w : World) (B : Nat) (rv : Value) (rs : List Req) (h : ReqsAt B w rv rs) :
    Calls Try.prog 12 #[rv] w fun e w' => SomeBool e ∧ w' = w := by
  obtain ⟨ao, cap, rfl, hm, hr, h⟩ := h
  rcases h with rfl | ⟨b, off, _, rfl, hc⟩
  · go_enter Try.func12, Try.ntmps12
    go_wp2
    refine wp_loop_rounds 1 ?_
    rw [rounds_succ]
    go_wp2
    go_ret
    exact ⟨someBool rfl, rfl⟩
  · by_cases hbig : (1048576 : Int) < rs.length
    · go_enter Try.func12, Try.ntmps12
      go_wp2
      go_ret
      exact ⟨someBool rfl, rfl⟩
    · go_enter Try.func12, Try.ntmps12
      go_wp2
      go_loop [3, 4] (fun z i => ∃ (k : Nat) (t : Int), k ≤ rs.length ∧ i = .int .i64 k ∧ z = .int .i64 t ∧ 0 ≤ t ∧ t ≤ 1048576) (fun _ i => rs.length - (intOf i).toNat)
      case atStart => exact ⟨0, _, Nat.zero_le _, rfl, rfl, by omega, by omega⟩
      case round =>
        obtain ⟨k, t, hk, rfl, rfl, ht0, ht1⟩ := hrel
        by_cases hlt : k < rs.length
        · obtain ⟨r, hx⟩ : ∃ x, rs[k]? = some x := ⟨_, List.getElem?_eq_getElem hlt⟩
          obtain ⟨c0, c1, c2⟩ := hc k r hx
          obtain ⟨s0, s1, s2⟩ := hr r (List.mem_of_getElem? hx)
          obtain ⟨ao', cap', e', hvl, hvs, s2⟩ := s2
          rw [e'] at c2
          clear hc hx hr e'
          go_wp2
          iterate 6
            · go_ret
              exact ⟨someBool rfl, rfl⟩
          go_loop [3, 5] (fun z i => ∃ (j : Nat) (t : Int), j ≤ r.vals.length ∧ i = .int .i64 j ∧ z = .int .i64 t ∧ 0 ≤ t ∧ t ≤ 1048576) (fun _ i => r.vals.length - (intOf i).toNat)
          case atStart => exact ⟨0, _, Nat.zero_le _, rfl, rfl, by omega, by omega⟩
          case round =>
            obtain ⟨j, t', hj, rfl, rfl, hu0, hu1⟩ := hrel
            by_cases hjlt : j < r.vals.length
            · rcases s2 with hnil | ⟨b', off', _, rfl, hc'⟩
              · rw [hnil] at hjlt; simp at hjlt
              · obtain ⟨x, hx⟩ : ∃ x, r.vals[j]? = some x := ⟨_, List.getElem?_eq_getElem hjlt⟩
                have hcell := hc' j x hx
                have hxs := hvs x (List.mem_of_getElem? hx)
                clear hc' hx hvs
                go_wp2
                iterate 2
                  · go_ret
                    exact ⟨someBool rfl, rfl⟩
                go_round
                case rel => exact ⟨j + 1, _, by omega, by go_num, rfl, by omega, by omega⟩
                case measure => simp [intOf]; omega
            · go_wp2
              go_round
              case rel => exact ⟨k + 1, _, by omega, by go_num, rfl, by omega, by omega⟩
              case measure => simp [intOf]; omega
        · go_wp2
          go_ret
          exact ⟨someBool rfl, rfl⟩

def vtot (rs : List Req) : Nat := (rs.map (fun r => r.vals.length)).sum
theorem vtot_take {rs : List Req} {k : Nat} {r : Req} (hx : rs[k]? = some r) : vtot (rs.take (k + 1)) = vtot (rs.take k) + r.vals.length := by
  unfold vtot
  rw [List.take_add_one, hx]
  simp
theorem vtot_all {rs : List Req} {k : Nat} (hk : ¬ k < rs.length) : vtot (rs.take k) = vtot rs := by rw [List.take_of_length_le (by omega)]
theorem vtot_append (a b : List Req) : vtot (a ++ b) = vtot a + vtot b := by simp [vtot]
def Small (rs : List Req) : Prop := rs.length ≤ 65536 ∧ vtot rs ≤ 1048576
def BigPost (rs : List Req) (e : Ending) : Prop := e = .returned (.bool true) ∨ (e = .returned (.bool false) ∧ Small rs)

set_option maxRecDepth 8000 in
set_option maxHeartbeats 1000000 in
theorem big_any (w : World) (B : Nat) (rv : Value) (rs : List Req) (h : ReqsAt B w rv rs) :
    Calls Try.prog 7 #[rv] w fun e w' => BigPost rs e ∧ ∃ n, w' = w.drewN n := by
  obtain ⟨ao, cap, rfl, hm, hr, h⟩ := h
  rcases h with rfl | ⟨b, off, hbB, rfl, hc⟩
  · go_enter Try.func7, Try.ntmps7
    go_wp2
    refine wp_loop_rounds 1 ?_
    rw [rounds_succ]
    go_wp2
    go_ret
    exact ⟨Or.inr ⟨rfl, by simp [Small, vtot]⟩, 0, rfl⟩
  · by_cases hbig : (65536 : Int) < rs.length
    · go_enter Try.func7, Try.ntmps7
      go_wp2
      go_ret
      exact ⟨Or.inl rfl, 0, rfl⟩
    by_cases hbig2 : (1048576 : Int) < 56 * rs.length
    · go_enter Try.func7, Try.ntmps7
      go_wp2
      go_ret
      exact ⟨Or.inl rfl, 0, rfl⟩
    · go_enter Try.func7, Try.ntmps7
      go_wp2
      go_loopw [3, 4] (fun z i wr => ∃ (k n : Nat) (t : Int), k ≤ rs.length ∧ i = .int .i64 k ∧ z = .int .i64 t ∧ 0 ≤ t ∧ t ≤ 1048576 ∧ (vtot (rs.take k) : Int) ≤ t ∧ wr = w.drewN n) (fun _ i _ => rs.length - (intOf i).toNat)
      case atStart => exact ⟨0, 0, _, Nat.zero_le _, rfl, rfl, by omega, by omega, by simp [vtot]; omega, rfl⟩
      case round =>
        obtain ⟨k, n, t, hk, rfl, rfl, ht0, ht1, htv, hwr⟩ := hrel
        have HW : Hid (wr = w.drewN n) := hwr
        have hbw : Below B w wr := by rw [hwr]; exact below_n _ _ _
        clear hwr
        by_cases hlt : k < rs.length
        · obtain ⟨r, hx⟩ : ∃ x, rs[k]? = some x := ⟨_, List.getElem?_eq_getElem hlt⟩
          obtain ⟨c0, c1, c2⟩ := hc k r hx
          rw [← hbw.cell (p := ⟨b, _, none⟩) hbB] at c0 c1 c2
          obtain ⟨s0, s1, s2⟩ := hr r (List.mem_of_getElem? hx)
          have hvt : Hid (vtot (rs.take (k + 1)) = vtot (rs.take k) + r.vals.length) := vtot_take hx
          obtain ⟨ao', cap', e', hvl, hvs, s2⟩ := s2.below hbw
          rw [e'] at c2
          clear hc hx hr e'
          go_wp2
          · go_ret
            exact ⟨Or.inl rfl, n, HW.out⟩
          go_quiet (fail)
          go_wp2
          · go_ret
            exact ⟨Or.inl rfl, n + nq, by rw [HW.out, World.drewN_drewN]⟩
          go_loop [3, 5] (fun z i => ∃ (j : Nat) (t' : Int), j ≤ r.vals.length ∧ i = .int .i64 j ∧ z = .int .i64 t' ∧ t + (r.key.size + r.op.size + 16 * r.vals.length) ≤ t' ∧ t' ≤ 1048576) (fun _ i => r.vals.length - (intOf i).toNat)
          case atStart => exact ⟨0, _, Nat.zero_le _, rfl, rfl, by omega, by omega⟩
          case round =>
            obtain ⟨j, t', hj, rfl, rfl, hu0, hu1⟩ := hrel
            by_cases hjlt : j < r.vals.length
            · rcases s2 with hnil | ⟨b', off', _, rfl, hc'⟩
              · rw [hnil] at hjlt; simp at hjlt
              · obtain ⟨x, hx⟩ : ∃ x, r.vals[j]? = some x := ⟨_, List.getElem?_eq_getElem hjlt⟩
                have hcell := hc' j x hx
                have hxs := hvs x (List.mem_of_getElem? hx)
                clear hc' hx hvs
                go_wp2
                · go_ret
                  exact ⟨Or.inl rfl, n + nq, by rw [HW.out, World.drewN_drewN]⟩
                go_round
                case rel => exact ⟨j + 1, _, by omega, by go_num, rfl, by omega, by omega⟩
                case measure => simp [intOf]; omega
            · go_wp2
              go_roundw
              case rel => exact ⟨k + 1, n + nq, _, by omega, by go_num, rfl, by omega, by omega, by rw [hvt.out]; omega, by rw [HW.out, World.drewN_drewN]⟩
              case measure => simp [intOf]; omega
        · go_wp2
          go_ret
          have := vtot_all hlt
          exact ⟨Or.inr ⟨rfl, by unfold Small; omega⟩, n, HW.out⟩

end Go.Proofs.Qxb6617295a
