/-
  THE WALKS of appendDigits, ZZappendDigits, zzCopyBytes, zzPow10, the byte guards.
-/
import Derived.Test.Qxb6617372aRowMem
namespace Go.Proofs.Qxb6617372a
open Go.RowKit

theorem Row.isSlice {w : World} {base : Nat} {v : Value} {l : List UInt8} (h : Row w base v l) : ∃ a c, v = .slice a l.length c := by
  rcases h.2 with ⟨e, h0⟩ | ⟨g, cap, cur, e, _⟩
  · exact ⟨none, 0, by rw [e, h0]⟩
  · exact ⟨_, _, e⟩

set_option maxHeartbeats 1000000 in
theorem app0 (w : World) (base : Nat) (v : Value) (l : List UInt8) (x k : Nat) (hown : Row w base v l) (hx : x ≤ 9223372036854775807) (hk : k ≤ 131072) (hl : l.length ≤ 4194304) (hbase : base ≤ w.heap.size) :
    Calls Try.prog 17 #[v, .int .i64 x, .int .i64 k] w fun e w' => ∃ v', e = .returned v' ∧ Row w' base v' (l ++ sfx x k) ∧ w.grownBy w' v.ownBlock ∧ (v'.ownBlock = v.ownBlock ∨ v'.ownBlock = some w.heap.size) := by
  obtain ⟨a0, c0, rfl⟩ := hown.isSlice
  have hlen : (l ++ List.replicate k 0).length = l.length + k := by simp
  have HLn := hide hlen
  clear hlen
  go_enter Try.func17, Try.ntmps17
  go_wp2_with (first | (at_builtin; refine wp_zeros_own _ rfl _ _ rfl base (.slice a0 l.length c0) l k rfl rfl hown (by omega) hbase ?_; intro v1 w1 hrow1 hg1 hat1; obtain ⟨a1, c1, rfl⟩ := hrow1.isSlice; rw [HLn.out] at hat1 ⊢; have HR1 := hide hrow1; rw [HLn.out] at HR1; clear hrow1))
  go_loopw [1, 7] (fun s1 s7 wr => ∃ q j : Nat, q + j = l.length + k ∧ j ≤ k ∧ s7 = .int .i64 ((q : Int) - 1) ∧ s1 = .int .i64 ((x / 10 ^ j : Nat) : Int) ∧ wr.ownsRow base 5 1 (.slice a1 (l.length + k) c1) (l.length + k) (bcells (part l x k j)) ∧ w.grownBy wr (Value.ownBlock (.slice a0 l.length c0))) (fun _ i _ => (intOf i + 1).toNat)
  case atStart => exact ⟨l.length + k, 0, rfl, Nat.zero_le _, by go_num, by simp, by rw [part_zero, ← HLn.out]; rw [← HLn.out] at HR1; exact HR1.out, hg1⟩
  case round =>
    obtain ⟨q, j, hqj, hjk, rfl, rfl, hrow, hgw⟩ := hrel
    have HQ := hide hqj
    have hy : x / 10 ^ j ≤ x := Nat.div_le_self _ _
    by_cases hlt : j < k
    · obtain ⟨p, rfl⟩ : ∃ p, q = p + 1 := ⟨q - 1, by omega⟩
      have hpl : p < l.length + k := by omega
      have hge : l.length ≤ p := by omega
      rw [show (((p + 1 : Nat) : Int) - 1) = (p : Int) by omega]
      have hpart : Hid ((part l x k j).set p (digB x j) = part l x k (j + 1)) := part_set hlt (by omega)
      have hplen := part_length (l := l) (x := x) (n := k) hjk
      have hR : Row wr base (.slice a1 (part l x k j).length c1) (part l x k j) := by show wr.ownsRow _ _ _ _ _ _; rw [hplen]; exact hrow
      obtain ⟨g, cap', cur, e, hbg, hblk, hcells⟩ := hR.shape (by omega)
      injection e with e1 _ e3
      subst e1 e3
      obtain ⟨c, hc⟩ : ∃ c, (part l x k j)[p]? = some c := ⟨_, List.getElem?_eq_getElem (by omega)⟩
      have hcell := hcells p c hc
      unfold cellB at hcell
      have hfr : wr.frozen? ⟨g, p, none⟩ = false := by simp [World.frozen?, hblk]
      have hdig : Hid (cellB (digB x j) = .int .u8 (48 + ((x / 10 ^ j : Nat) : Int) % 10)) := by unfold cellB; rw [digB_toNat]; rfl
      have hnext : Hid (((x / 10 ^ j : Nat) : Int) / 10 = ((x / 10 ^ (j + 1) : Nat) : Int)) := by rw [Nat.pow_succ, ← Nat.div_div_eq_div_mul]; rfl
      generalize x / 10 ^ j = y at hy hdig hnext ⊢
      have HR2 := hide hR
      have HP := hide hplen
      clear hrow hR hcells hc hblk hplen hqj
      go_wp2_with fail
      go_roundw
      case rel =>
        have hq := HQ.out
        have hs := HR2.out.set (p := p) (c := digB x j)
        rw [hdig.out] at hs
        refine ⟨p, j + 1, by omega, by omega, rfl, by rw [hnext.out], ?_, hgw.andThen hs.2 (fun i e => ?_)⟩
        · have h1 := hs.1
          rw [hpart.out] at h1
          have h2 : (wr.setCell ⟨g, p, none⟩ (.int .u8 (48 + (y : Int) % 10))).ownsRow base 5 1 (.slice (some ⟨g, 0, none⟩) (part l x k j).length c1) (part l x k (j + 1)).length (bcells (part l x k (j + 1))) := h1
          rw [HP.out, part_length (by omega)] at h2
          exact h2
        · injection e with e
          rcases hat1 with h | h
          · exact Or.inr (by rw [← h, ← e]; rfl)
          · left
            have : g = w.heap.size := by simpa [Value.ownBlock] using h
            omega
      case measure => simp [intOf]
    · have hjk' : j = k := by omega
      subst hjk'
      have hq : q = l.length := by omega
      subst hq
      have HRow := hide hrow
      clear hrow hqj
      go_wp2_with fail
      go_ret
      refine ⟨_, rfl, ?_, hgw, hat1⟩
      have h1 := HRow.out
      rw [part_all] at h1
      show wr.ownsRow base 5 1 _ (l ++ sfx x j).length (bcells (l ++ sfx x j))
      rw [List.length_append, sfx_length]
      exact h1

set_option maxHeartbeats 400000 in
theorem app_any (w : World) (base : Nat) (v : Value) (l : List UInt8) (x k : Nat) (hown : Row w base v l) (hx : x ≤ 9223372036854775807) (hk : k ≤ 131072) (hl : l.length ≤ 4194304) (hbase : base ≤ w.heap.size) :
    Calls Try.prog 10 #[v, .int .i64 x, .int .i64 k] w fun e w' => ∃ v', e = .returned v' ∧ Row w' base v' (l ++ sfx x k) ∧ w.grownBy w' v.ownBlock ∧ (v'.ownBlock = v.ownBlock ∨ v'.ownBlock = some w.heap.size) := by
  have hc := app0 w base v l x k hown hx hk hl hbase
  obtain ⟨a0, c0, rfl⟩ := hown.isSlice
  go_enter Try.func10, Try.ntmps10
  go_wp2_with fail
  refine hc.mono ?_
  rintro e w' ⟨v', rfl, h1, h2, h3⟩
  go_wp2_with fail
  go_ret
  exact ⟨v', rfl, h1, h2, h3⟩

/-- What stands in the copy when j bytes are over. -/
def half (l : List UInt8) (j : Nat) : List UInt8 := l.take j ++ List.replicate (l.length - j) 0
theorem half_length {l : List UInt8} {j : Nat} (h : j ≤ l.length) : (half l j).length = l.length := by simp [half]; omega
theorem half_set {l : List UInt8} {j : Nat} {c : UInt8} (hc : l[j]? = some c) : (half l j).set j c = half l (j + 1) := by
  have hj : j < l.length := (List.getElem?_eq_some_iff.1 hc).1
  unfold half
  have e : l.length - j = (l.length - (j + 1)) + 1 := by omega
  have ht : (l.take j).length = j := by simp; omega
  rw [List.set_append_right _ _ (by omega), ht, Nat.sub_self, e, List.replicate_succ, List.set_cons_zero, take_snoc hc, List.append_assoc]
  rfl
theorem half_all {l : List UInt8} {j : Nat} (h : ¬ j < l.length) : half l j = l := by
  unfold half
  rw [List.take_of_length_le (by omega), show l.length - j = 0 by omega]
  simp

set_option maxHeartbeats 1000000 in
theorem copy_any (w : World) (B : Nat) (v : Value) (l : List UInt8) (h : BytesAt B w v l) (hl : l.length ≤ 4194304) (hB : B ≤ w.heap.size) :
    Calls Try.prog 9 #[v] w fun e w' => ∃ v', e = .returned v' ∧ Row w' w.heap.size v' l ∧ Below w.heap.size w w' := by
  obtain ⟨ao, cap, rfl, hnil, hc⟩ := h
  have heq := fun a => Lib.run_eql_slice_nil (P := Try.prog) w 22 5 a l.length cap 0 0 Try.underlying22
  cases ao with
  | none =>
    have e := hnil rfl
    subst e
    simp only [List.length_nil] at heq
    go_enter Try.func9, Try.ntmps9
    go_wp2_with fail
    go_ret
    exact ⟨_, rfl, World.ownsRow_nil w _ _ _, Below.refl _ _⟩
  | some a =>
    obtain ⟨i0, hi, hz0, hz1, hz2⟩ := info_parts info5
    go_enter Try.func9, Try.ntmps9
    go_wp2_with (first | (at_make; refine wpList_make_full _ rfl _ _ 22 rfl w.heap.size 5 i0 (.int .u8 0) 1 Try.underlying22 hi hz0 hz1 _ _ _ _ l.length rfl rfl rfl rfl (by rw [hz2]; omega) (by unfold maxLen; omega) (Nat.le_refl _) ?_; intro w1 hown1 hg1))
    have hb1 : Below w.heap.size w w1 := (Below.refl _ _).grown hg1 (Nat.le_refl _) (fun k e => by cases e)
    have hrow0 : w1.ownsRow w.heap.size 5 1 (.slice (some ⟨w.heap.size, 0, none⟩) l.length l.length) l.length (bcells (half l 0)) := by
      rw [madeCells_u8] at hown1
      have : half l 0 = List.replicate l.length 0 := by simp [half]
      rw [this, bcells_zero]; exact hown1
    clear hown1 hg1
    go_loopw [4] (fun i wr => ∃ k : Nat, k ≤ l.length ∧ i = .int .i64 k ∧ wr.ownsRow w.heap.size 5 1 (.slice (some ⟨w.heap.size, 0, none⟩) l.length l.length) l.length (bcells (half l k)) ∧ Below w.heap.size w wr) (fun i _ => l.length - (intOf i).toNat)
    case atStart => exact ⟨0, Nat.zero_le _, rfl, hrow0, hb1⟩
    case round =>
      obtain ⟨k, hk, rfl, hrow, hbr⟩ := hrel
      clear hrow0 hb1 heq
      by_cases hlt : k < l.length
      · obtain ⟨c, hx⟩ : ∃ c, l[k]? = some c := ⟨_, List.getElem?_eq_getElem hlt⟩
        rcases hc with hn | ⟨b, off, hbB, e, hcells⟩
        · rw [hn] at hlt; simp at hlt
        injection e with e
        subst e
        have hcx := hcells k c hx
        rw [← hbr.cell (p := ⟨b, _, none⟩) (Nat.lt_of_lt_of_le hbB hB)] at hcx
        have hset := half_set hx
        have hplen := half_length (l := l) hk
        have hR : Row wr w.heap.size (.slice (some ⟨w.heap.size, 0, none⟩) (half l k).length l.length) (half l k) := by show wr.ownsRow _ _ _ _ _ _; rw [hplen]; exact hrow
        obtain ⟨g, cap', cur, e, hbg, hblk, hcells2⟩ := hR.shape (by omega)
        injection e with e1 _ e3
        injection e1 with e1
        injection e1 with e1 _ _
        subst e1
        obtain ⟨c', hc'⟩ : ∃ c, (half l k)[k]? = some c := ⟨_, List.getElem?_eq_getElem (by omega)⟩
        have hcell := hcells2 k c' hc'
        unfold cellB at hcell hcx
        have hfr : wr.frozen? ⟨w.heap.size, k, none⟩ = false := by simp [World.frozen?, hblk]
        have HS := hide hset
        have HR2 := hide hR
        have HP := hide hplen
        have hws : w.heap.size < wr.heap.size := (Array.getElem?_eq_some_iff.1 hblk).1
        clear hrow hR hcells hcells2 hc' hblk hplen hset hx e3
        go_wp2_with fail
        go_roundw
        case rel =>
          have hs := HR2.out.set (p := k) (c := c)
          unfold cellB at hs
          refine ⟨k + 1, by omega, by go_num, ?_, hbr.grown hs.2 (by omega) (fun j e => by cases e; exact Nat.le_refl _)⟩
          have h1 := hs.1
          rw [HS.out] at h1
          have h2 : (wr.setCell ⟨w.heap.size, k, none⟩ (.int .u8 (c.toNat : Int))).ownsRow w.heap.size 5 1 (.slice (some ⟨w.heap.size, 0, none⟩) (half l k).length l.length) (half l (k + 1)).length (bcells (half l (k + 1))) := h1
          rw [HP.out, half_length (by omega)] at h2
          exact h2
        case measure => simp [intOf]; omega
      · have HRow := hide hrow
        clear hrow
        go_wp2_with fail
        go_ret
        refine ⟨_, rfl, ?_, hbr⟩
        have h1 := HRow.out
        rw [half_all hlt] at h1
        exact h1

theorem pow_small {k : Nat} (h : k ≤ 17) : 1 ≤ 10 ^ k ∧ 10 ^ k ≤ 100000000000000000 := by
  have e : (10 : Nat) ^ 17 = 100000000000000000 := by decide
  exact ⟨Nat.one_le_pow _ _ (by omega), by rw [← e]; exact Nat.pow_le_pow_right (by omega) h⟩
theorem pow_18 : (10 : Nat) ^ 18 = 1000000000000000000 := by decide

def PowPost (n : Nat) (e : Ending) : Prop := (n ≤ 18 ∧ e = .returned (.tuple #[.int .i64 ((10 ^ n : Nat) : Int), .bool true])) ∨ (19 ≤ n ∧ e = .returned (.tuple #[.int .i64 0, .bool false]))

set_option maxHeartbeats 1000000 in
theorem pow_any (w : World) (n : Nat) (hn : n ≤ 65536) :
    Calls Try.prog 12 #[.int .i64 n] w fun e w' => PowPost n e ∧ w' = w := by
  go_enter Try.func12, Try.ntmps12
  go_wp2_with fail
  go_loop [4, 5] (fun p i => ∃ k : Nat, k ≤ n ∧ k ≤ 18 ∧ i = .int .i64 k ∧ p = .int .i64 ((10 ^ k : Nat) : Int)) (fun _ i => n - (intOf i).toNat)
  case atStart => exact ⟨0, Nat.zero_le _, by omega, rfl, rfl⟩
  case round =>
    obtain ⟨k, hk, hk18, rfl, rfl⟩ := hrel
    by_cases hlt : k < n
    · by_cases h17 : k ≤ 17
      · obtain ⟨p1, p2⟩ := pow_small h17
        have HS : Hid (((10 ^ (k + 1) : Nat) : Int) = ((10 ^ k : Nat) : Int) * 10) := by rw [Nat.pow_succ]; rfl
        generalize 10 ^ k = p at p1 p2 HS ⊢
        go_wp2_with fail
        go_round
        case rel => exact ⟨k + 1, by omega, by omega, by go_num, by rw [HS.out]⟩
        case measure => simp [intOf]; omega
      · have hk' : k = 18 := by omega
        subst hk'
        rw [pow_18]
        go_wp2_with fail
        go_ret2
        exact ⟨Or.inr ⟨by omega, rfl⟩, rfl⟩
    · have hk' : k = n := by omega
      subst hk'
      have HK := hide hk18
      have HE : Hid (∀ p : Int, p = ((10 ^ k : Nat) : Int) → PowPost k (.returned (.tuple #[.int .i64 p, .bool true]))) := fun p e => Or.inl ⟨HK.out, by rw [e]⟩
      obtain ⟨p, hp⟩ : ∃ p : Int, Hid (p = ((10 ^ k : Nat) : Int)) := ⟨_, rfl⟩
      rw [← hp.out]
      go_wp2_with fail
      go_ret2
      exact ⟨HE.out p hp.out, rfl⟩

set_option maxHeartbeats 400000 in
theorem zzbytes3 (w : World) (ao : Option Addr) (len cap : Nat) (x n : Int) (h : len ≤ maxLen) :
    Calls Try.prog 8 #[.slice ao len cap, .int .i64 x, .int .i64 n] w fun e w' => SomeBool e ∧ w' = w := by
  unfold maxLen at h
  go_enter Try.func8, Try.ntmps8
  go_wp2
  all_goals
    go_ret
    exact ⟨someBool rfl, rfl⟩

set_option maxHeartbeats 400000 in
theorem zzbytes4 (w : World) (ao : Option Addr) (len cap : Nat) (x m n : Int) (h : len ≤ maxLen) :
    Calls Try.prog 13 #[.slice ao len cap, .int .i64 x, .int .i64 m, .int .i64 n] w fun e w' => SomeBool e ∧ w' = w := by
  unfold maxLen at h
  go_enter Try.func13, Try.ntmps13
  go_wp2
  all_goals
    go_ret
    exact ⟨someBool rfl, rfl⟩

end Go.Proofs.Qxb6617372a
