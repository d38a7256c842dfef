/-
  THE WALKS of ZZAdd, buildLabels, ZZNewLabels, ZZRequired.
-/
import Derived.Test.Qxb6617295aWalkB
import Derived.Deep.RegionWith
namespace Go.Proofs.Qxb6617295a
open Go.RowKit

def addAll (S : St) (l : List Req) : St := l.foldl St.add S
theorem addAll_snoc (S : St) (l : List Req) (r : Req) : addAll S (l ++ [r]) = (addAll S l).add r := by simp [addAll]
theorem add_bounds (S : St) (r : Req) : (S.add r).keys.length ≤ S.keys.length + 1 ∧ (S.add r).reqd.length ≤ S.reqd.length + 1 ∧ (S.add r).nmax = S.nmax + r.vals.length := by
  have h1 : (S.named r.key).keys.length ≤ S.keys.length + 1 ∧ (S.named r.key).reqd = S.reqd ∧ (S.named r.key).nmax = S.nmax := by
    unfold St.named; split
    · exact ⟨Nat.le_succ _, rfl, rfl⟩
    · exact ⟨by simp [St.mention], rfl, rfl⟩
  have h2 : ∀ T : St, (T.demand r.key r.op).keys = T.keys ∧ (T.demand r.key r.op).reqd.length ≤ T.reqd.length + 1 ∧ (T.demand r.key r.op).nmax = T.nmax := fun T => by
    unfold St.demand; split
    · exact ⟨rfl, by simp [St.req, St.setPres], rfl⟩
    · exact ⟨rfl, Nat.le_succ _, rfl⟩
  have h3 : ∀ T : St, (T.sets r.key r.op r.vals).keys = T.keys ∧ (T.sets r.key r.op r.vals).reqd = T.reqd ∧ (T.sets r.key r.op r.vals).nmax = T.nmax + r.vals.length := fun T => by
    unfold St.sets; split
    · exact ⟨rfl, rfl, rfl⟩
    · split
      · exact ⟨rfl, rfl, rfl⟩
      · split <;> exact ⟨rfl, rfl, rfl⟩
  unfold St.add
  obtain ⟨a1, a2, a3⟩ := h3 ((S.named r.key).demand r.key r.op)
  obtain ⟨b1, b2, b3⟩ := h2 (S.named r.key)
  rw [a1, a2, a3, b1, b3]
  rw [h1.2.1] at b2
  exact ⟨h1.1, b2, by rw [h1.2.2]⟩
theorem addAll_bounds (S : St) (l : List Req) : (addAll S l).keys.length ≤ S.keys.length + l.length ∧ (addAll S l).reqd.length ≤ S.reqd.length + l.length ∧ (addAll S l).nmax = S.nmax + vtot l := by
  induction l generalizing S with
  | nil => exact ⟨Nat.le_refl _, Nat.le_refl _, rfl⟩
  | cons r l ih =>
    obtain ⟨a, b, c⟩ := ih (S.add r)
    obtain ⟨d, e, f⟩ := add_bounds S r
    have hc : addAll S (r :: l) = addAll (S.add r) l := rfl
    rw [hc]
    refine ⟨by simp; omega, by simp; omega, ?_⟩
    rw [c, f]; simp [vtot]; omega
theorem seg_succ {rs : List Req} {f k : Nat} {r : Req} (hf : f ≤ k) (hx : rs[k]? = some r) : (rs.take (k + 1)).drop f = (rs.take k).drop f ++ [r] := by
  have hk : k < rs.length := (List.getElem?_eq_some_iff.1 hx).1
  rw [List.take_add_one, hx, List.drop_append_of_le_length (by simp; omega)]
  rfl
theorem vtot_seg (rs : List Req) (f k : Nat) : vtot ((rs.take k).drop f) ≤ vtot rs := by
  have h1 := vtot_append ((rs.take k).take f) ((rs.take k).drop f)
  have h2 := vtot_append (rs.take k) (rs.drop k)
  rw [List.take_append_drop] at h1 h2
  omega

set_option maxHeartbeats 400000 in
theorem zzadd_any (w : World) (base sb : Nat) (S : St) (r : Req) (hS : Sel w base sb S) (hv : StrsAt base w r.sv r.vals) (hk : r.key.size ≤ maxLen)
    (hroom : S.keys.length < maxLen) (hn : S.nmax + r.vals.length < maxLen) (hreq : (S.reqd.length + 1) * 16 ≤ 140737488355328) :
    Calls Try.prog 20 #[.pointer (some ⟨sb, 0, none⟩), .string r.key, .string r.op, r.sv] w fun e w' => e = .returned (.tuple #[]) ∧ Sel w' base sb (S.add r) ∧ Below base w w' := by
  have hc := add_any w base sb S r.key r.op r.sv r.vals hS hv hk hroom hn hreq
  go_enter Try.func20, Try.ntmps20
  go_wp2_with (go_at_call 24; refine hc.mono ?_; rintro e w' ⟨rfl, hS', hb'⟩)
  go_end0
  exact ⟨rfl, hS', hb'⟩

set_option maxRecDepth 8000 in
set_option maxHeartbeats 1000000 in
theorem build_any (w : World) (base sb : Nat) (S : St) (rv : Value) (rs : List Req) (f t : Nat) (hS : Sel w base sb S) (h : ReqsAt base w rv rs) (hft : f ≤ t) (ht : t ≤ rs.length) (hsm : Small rs)
    (hk : S.keys.length ≤ 65536) (hn : S.nmax ≤ 1048576) (hreq : S.reqd.length ≤ 65536) :
    Calls Try.prog 9 #[rv, .int .i64 f, .int .i64 t, .pointer (some ⟨sb, 0, none⟩)] w fun e w' => e = .returned (.tuple #[]) ∧ Sel w' base sb (addAll S ((rs.take t).drop f)) ∧ Below base w w' := by
  obtain ⟨ao, cap, rfl, hm, hr, h⟩ := h
  obtain ⟨sm1, sm2⟩ := hsm
  have hbase : base ≤ w.heap.size := by obtain ⟨mb, rv, D, tag, h⟩ := hS; exact Nat.le_trans h.bsb (Nat.le_of_lt (lt_of_heap h.blk))
  go_enter Try.func9, Try.ntmps9
  go_wp2_with fail
  go_loopw [8] (fun i wr => ∃ k : Nat, f ≤ k ∧ k ≤ t ∧ i = .int .i64 k ∧ Sel wr base sb (addAll S ((rs.take k).drop f)) ∧ Below base w wr) (fun i _ => t - (intOf i).toNat)
  case atStart => exact ⟨f, Nat.le_refl _, hft, rfl, by rw [List.drop_eq_nil_of_le (by simp; omega)]; exact hS, Below.refl _ _⟩
  case round =>
    obtain ⟨k, hfk, hkt, rfl, hSr, hbr⟩ := hrel
    by_cases hlt : k < t
    · obtain ⟨r, hx⟩ : ∃ x, rs[k]? = some x := ⟨_, List.getElem?_eq_getElem (by omega)⟩
      rcases h with hnil | ⟨b, off, hbB, rfl, hc⟩
      · rw [hnil] at ht; simp at ht; omega
      obtain ⟨c0, c1, c2⟩ := hc k r hx
      rw [← hbr.cell (p := ⟨b, _, none⟩) hbB] at c0 c1 c2
      obtain ⟨s0, s1, s2⟩ := hr r (List.mem_of_getElem? hx)
      have s3 := s2.below hbr
      have HX := hide hx
      have hseg := hide (seg_succ hfk hx)
      obtain ⟨q1, q2, q3⟩ := addAll_bounds S ((rs.take k).drop f)
      have q4 : ((rs.take k).drop f).length ≤ 65536 := by simp; omega
      have q5 := vtot_seg rs f (k + 1)
      have hca : ∀ wx, Below wr.heap.size wr wx → Calls Try.prog 20 #[.pointer (some ⟨sb, 0, none⟩), .string r.key, .string r.op, r.sv] wx fun e w' => e = .returned (.tuple #[]) ∧ Sel w' base sb (addAll S ((rs.take (k + 1)).drop f)) ∧ Below base w w' := by
        intro wx hwx
        rw [hseg.out, addAll_snoc]
        rw [hseg.out, vtot_append] at q5
        have q6 : vtot [r] = r.vals.length := by simp [vtot]
        refine (zzadd_any wx base sb _ r (hSr.below hwx) (s3.below (hwx.mono (Nat.le_trans hbase hbr.size))) (le_max s0) (by unfold maxLen; omega) (by unfold maxLen; omega) (by omega)).mono ?_
        rintro e w' ⟨h1, h2, h3⟩
        exact ⟨h1, h2, hbr.trans ((hwx.mono (Nat.le_trans hbase hbr.size)).trans h3)⟩
      have HC := hide hca
      have hkl : (k : Int) < rs.length := by omega
      have hkl' : k < rs.length := by omega
      clear hc hx hr s0 s1 s2 s3 hca q1 q2 q3 q4 q5 hSr hS
      go_wp2_with fail
      go_region_with (go_at_call 20; refine (HC.out _ (Below.refl _ _).drew).mono ?_; rintro e w' ⟨rfl, hS', hb'⟩)
      all_goals
        go_wp2_with fail
        go_roundw
        case rel => exact ⟨k + 1, by omega, by omega, by go_num, hS', hb'⟩
        case measure => simp [intOf]; omega
    · have hkt' : k = t := by omega
      rw [hkt'] at hSr
      clear hkt'
      go_wp2_with fail
      go_end0
      exact ⟨rfl, hSr, hbr⟩

set_option maxHeartbeats 400000 in
theorem new_any (w : World) :
    Calls Try.prog 8 #[] w fun e w' => e = .returned (.agg #[.map (some (w.heap.size + 1)), .slice none 0 0]) ∧ w' = (w.alloc (.cells #[.map (some (w.heap.size + 1)), .slice none 0 0] 28)).alloc (.map #[] 0) := by
  have hmm := @run_makeMap Try.prog
  go_enter Try.func8, Try.ntmps8
  go_wp2
  exact bodyPost_ret (v := .agg #[.map (some (w.heap.size + 1)), .slice none 0 0]) (by simp [results, Try.results8, go_sem]) rfl ⟨rfl, rfl⟩

set_option maxHeartbeats 400000 in
theorem required_any (w : World) (mv rv : Value) (hr : ∃ a l c, rv = .slice a l c) :
    Calls Try.prog 13 #[.agg #[mv, rv]] w fun e w' => e = .returned rv ∧ w' = w.alloc (.cells #[mv, rv] 28) := by
  obtain ⟨a, l, c, rfl⟩ := hr
  go_enter Try.func13, Try.ntmps13
  go_wp2
  go_ret
  exact ⟨rfl, rfl⟩

end Go.Proofs.Qxb6617295a
