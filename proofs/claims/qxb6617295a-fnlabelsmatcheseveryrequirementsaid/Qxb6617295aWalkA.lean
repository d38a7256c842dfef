/-
  THE WALKS of what only reads: demandsLabel, hasValue, requirementHolds.
-/
import Derived.Test.Qxb6617295aPlain
namespace Go.Proofs.Qxb6617295a
open Go.RowKit

theorem ret_bool {a b : Bool} (h : a = b) : Ending.returned (.bool a) = .returned (.bool b) := by rw [h]

set_option maxHeartbeats 400000 in
theorem demands_any (op : ByteArray) (w : World) :
    Calls Try.prog 14 #[.string op] w fun e w' => e = .returned (.bool (dem op)) ∧ w' = w := by
  by_cases h : op.toList = [105, 110]
  · go_enter Try.func14, Try.ntmps14
    go_wp2
    go_ret
    exact ⟨ret_bool (by simp [dem, isIn, h]), rfl⟩
  · have hb : (op.toList == [105, 110]) = false := by simp [h]
    go_enter Try.func14, Try.ntmps14
    go_wp2
    go_ret
    exact ⟨ret_bool (by simp [dem, isIn, isEx, hb]), rfl⟩

set_option maxHeartbeats 400000 in
theorem has_any (w : World) (B : Nat) (sv : Value) (vs : List ByteArray) (v : ByteArray) (h : StrsAt B w sv vs) :
    Calls Try.prog 26 #[sv, .string v] w fun e w' => e = .returned (.bool (hasV vs v)) ∧ w' = w := by
  obtain ⟨ao, cap, rfl, hm, _, h⟩ := h
  rcases h with rfl | ⟨b, off, _, rfl, hc⟩
  · go_enter Try.func26, Try.ntmps26
    go_wp2
    refine wp_loop_rounds 1 ?_
    rw [rounds_succ]
    go_wp2
    go_ret
    exact ⟨rfl, rfl⟩
  · go_enter Try.func26, Try.ntmps26
    go_wp2
    go_loop [5] (fun i => ∃ k : Nat, k ≤ vs.length ∧ i = .int .i64 k ∧ hasV (vs.take k) v = false) (fun i => vs.length - (intOf i).toNat)
    case atStart => exact ⟨0, Nat.zero_le _, rfl, rfl⟩
    case round =>
      obtain ⟨k, hk, rfl, hf⟩ := hrel
      have HF : Hid (hasV (vs.take k) v = false) := hf
      clear hf
      by_cases hlt : k < vs.length
      · obtain ⟨x, hx⟩ : ∃ x, vs[k]? = some x := ⟨_, List.getElem?_eq_getElem hlt⟩
        have hcell := hc k x hx
        have HX : Hid (vs[k]? = some x) := hx
        clear hc hx
        go_wp2
        · go_ret
          exact ⟨ret_bool (hasV_of HX.out ‹_›).symm, rfl⟩
        · go_round
          case rel => exact ⟨k + 1, by omega, by go_num, by rw [hasV_take HX.out, HF.out]; simpa using ‹(x.toList == v.toList) = false›⟩
          case measure => simp [intOf]; omega
      · go_wp2
        go_ret
        exact ⟨ret_bool (by rw [← HF.out]; exact hasV_all hlt v), rfl⟩

set_option maxHeartbeats 400000 in
theorem holds_any (w : World) (B : Nat) (op : ByteArray) (sv : Value) (vs : List ByteArray) (v : ByteArray) (p : Bool) (h : StrsAt B w sv vs) :
    Calls Try.prog 22 #[.string op, sv, .string v, .bool p] w fun e w' => e = .returned (.bool (reqHolds op vs v p)) ∧ w' = w := by
  have hc := has_any w B sv vs v h
  go_enter Try.func22, Try.ntmps22
  go_wp2_with (go_at_call 26; refine hc.mono ?_; rintro e w' ⟨rfl, rfl⟩)
  all_goals
    go_ret
    exact ⟨ret_bool (by simp [reqHolds, isIn, isNotin, isEx, isNo, *]), rfl⟩

/-- What the labels hold at a key. -/
def LookAt (B : Nat) (w : World) (lv : Value) (look : ByteArray → Option ByteArray) : Prop :=
  ∀ wx, Below B w wx → ∀ key : ByteArray, key.size ≤ maxLen → (Instr.lookup 23 lv (.string key) true).run Try.prog wx = .ok (.tuple #[.string ((look key).getD ByteArray.empty), .bool (look key).isSome]) wx
theorem LookAt.below {B : Nat} {w w' : World} {lv : Value} {look : ByteArray → Option ByteArray} (h : LookAt B w lv look) (hb : Below B w w') : LookAt B w' lv look := fun wx hx => h wx (hb.trans hx)

def holdsOne (look : ByteArray → Option ByteArray) (r : Req) : Bool := reqHolds r.op r.vals ((look r.key).getD ByteArray.empty) (look r.key).isSome
def holdsAll (look : ByteArray → Option ByteArray) (rs : List Req) : Bool := rs.all (holdsOne look)

theorem holdsAll_take {look : ByteArray → Option ByteArray} {rs : List Req} {k : Nat} {r : Req} (hx : rs[k]? = some r) (h : holdsAll look (rs.take k) = true) : holdsAll look (rs.take (k + 1)) = holdsOne look r := by
  unfold holdsAll at *
  rw [List.take_add_one, hx]
  simp [List.all_append, h]
theorem holdsAll_no {look : ByteArray → Option ByteArray} {rs : List Req} {k : Nat} {r : Req} (hx : rs[k]? = some r) (h : holdsOne look r = false) : holdsAll look rs = false := by
  unfold holdsAll
  rw [List.all_eq_false]
  exact ⟨r, List.mem_of_getElem? hx, by simp [h]⟩
theorem holdsAll_all {look : ByteArray → Option ByteArray} {rs : List Req} {k : Nat} (hk : ¬ k < rs.length) : holdsAll look (rs.take k) = holdsAll look rs := by
  rw [List.take_of_length_le (by omega)]
theorem below_n (B : Nat) (w : World) (n : Nat) : Below B w (w.drewN n) := ⟨rfl, rfl, rfl, Nat.le_refl _, fun _ _ => rfl⟩

set_option maxHeartbeats 400000 in
theorem script_any (w : World) (B : Nat) (rv lv : Value) (rs : List Req) (look : ByteArray → Option ByteArray) (h : ReqsAt B w rv rs) (hl : LookAt B w lv look) :
    Calls Try.prog 11 #[rv, lv] w fun e w' => e = .returned (.bool (holdsAll look rs)) ∧ ∃ n, w' = w.drewN n := by
  obtain ⟨ao, cap, rfl, hm, hr, h⟩ := h
  rcases h with rfl | ⟨b, off, hbB, rfl, hc⟩
  · go_enter Try.func11, Try.ntmps11
    go_wp2
    refine wp_loop_rounds 1 ?_
    rw [rounds_succ]
    go_wp2
    go_ret
    exact ⟨rfl, 0, rfl⟩
  · go_enter Try.func11, Try.ntmps11
    go_wp2
    go_loopw [5] (fun i wr => ∃ k n : Nat, k ≤ rs.length ∧ i = .int .i64 k ∧ wr = w.drewN n ∧ holdsAll look (rs.take k) = true) (fun i _ => rs.length - (intOf i).toNat)
    case atStart => exact ⟨0, 0, Nat.zero_le _, rfl, rfl, rfl⟩
    case round =>
      obtain ⟨k, n, hk, rfl, hwr, hf⟩ := hrel
      have HF : Hid (holdsAll look (rs.take k) = true) := hf
      have HW : Hid (wr = w.drewN n) := hwr
      have hbw : Below B w wr := by rw [hwr]; exact below_n _ _ _
      clear hf hwr
      by_cases hlt : k < rs.length
      · obtain ⟨r, hx⟩ : ∃ x, rs[k]? = some x := ⟨_, List.getElem?_eq_getElem hlt⟩
        obtain ⟨c0, c1, c2⟩ := hc k r hx
        rw [← hbw.cell (p := ⟨b, _, none⟩) hbB] at c0 c1 c2
        obtain ⟨s0, s1, s2⟩ := hr r (List.mem_of_getElem? hx)
        have hlk := hl wr hbw r.key (le_max s0)
        have HX : Hid (rs[k]? = some r) := hx
        have s3 := s2.below hbw
        clear hc hx hr hl s1 s2 hbw
        go_wp2
        go_quiet ((go_at_call 22; exact Calls.quiet_of_same (holds_any _ B _ _ _ _ _ (s3.below (below_n _ _ _)))))
        go_wp2
        · go_ret
          have hb : holdsOne look r = false := by simpa [holdsOne] using ‹(!reqHolds r.op r.vals ((look r.key).getD ByteArray.empty) (look r.key).isSome) = true›
          exact ⟨ret_bool (holdsAll_no HX.out hb).symm, n + nq, by rw [HW.out, World.drewN_drewN]⟩
        · have hb : holdsOne look r = true := by simpa [holdsOne] using ‹(!reqHolds r.op r.vals ((look r.key).getD ByteArray.empty) (look r.key).isSome) = false›
          go_roundw
          case rel => exact ⟨k + 1, n + nq, by omega, by go_num, by rw [HW.out, World.drewN_drewN], by rw [holdsAll_take HX.out HF.out]; exact hb⟩
          case measure => simp [intOf]; omega
      · go_wp2
        go_ret
        exact ⟨ret_bool (by rw [← HF.out]; exact holdsAll_all hlt), n, HW.out⟩

end Go.Proofs.Qxb6617295a
