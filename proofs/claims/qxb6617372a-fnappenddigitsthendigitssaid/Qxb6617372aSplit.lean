/-
  THE WALK of FnAppendDigitsSplit.
-/
import Derived.Test.Qxb6617372aApp
import Derived.Deep.DeepCutAuto
namespace Go.Proofs.Qxb6617372a
open Go.RowKit

theorem Row.below {w w' : World} {base : Nat} {v : Value} {l : List UInt8} (h : Row w base v l) (hb : Below w.heap.size w w') : Row w' base v l := by
  refine ⟨h.1, ?_⟩
  rcases h.2 with hn | ⟨g, cap, cur, rfl, hbg, hgg, rest⟩
  · exact .inl hn
  · exact .inr ⟨g, cap, cur, rfl, hbg, (hb.block g (Array.getElem?_eq_some_iff.1 hgg).1).trans hgg, rest⟩
theorem Row.inside {w : World} {base : Nat} {v : Value} {l : List UInt8} (h : Row w base v l) : ∀ k, v.ownBlock = some k → base ≤ k ∧ k < w.heap.size := World.ownsRow.lt h
/-- The block of one row is not the block of another. -/
theorem apart_of {a b : Option Nat} (h : ∀ i j, a = some i → b = some j → i ≠ j) : a = none ∨ a ≠ b := by
  cases a with
  | none => exact Or.inl rfl
  | some i => exact Or.inr (fun e => h i i rfl e.symm rfl)

theorem BytesAt.cells {B n cap : Nat} {w : World} {ao : Option Addr} {l : List UInt8} (h : BytesAt B w (.slice ao n cap) l) : l = [] ∨ ∃ b off, ao = some ⟨b, off, none⟩ ∧ ∀ j c, l[j]? = some c → w.cell? ⟨b, off + j, none⟩ = some (.int .u8 (c.toNat : Int)) := by
  obtain ⟨ao', cap', e, _, h⟩ := h
  injection e with e1 _ _
  subst e1
  rcases h with h | ⟨b, off, _, e, hc⟩
  · exact Or.inl h
  · exact Or.inr ⟨b, off, e, hc⟩
theorem cell_n {w w' : World} {m : Nat} {a : Addr} (e : w' = w.drewN m) : w'.cell? a = w.cell? a := by subst e; rfl
theorem bel_n {w w' a : World} {m B : Nat} (e : w' = w.drewN m) (h : Below B a w) : Below B a w' := by subst e; exact h.trans ⟨rfl, rfl, rfl, Nat.le_refl _, fun _ _ => rfl⟩

set_option maxRecDepth 8000 in
set_option maxHeartbeats 1000000 in
theorem split_any (w : World) (v : Value) (l : List UInt8) (x m n : Int) (h : BytesAt w.heap.size w v l) (hl : l.length ≤ maxLen) (hx : x ≤ 9223372036854775807) :
    Calls Try.prog 4 #[v, .int .i64 x, .int .i64 m, .int .i64 n] w fun e w' => e = .returned (.bool true) ∧ Below w.heap.size w w' := by
  obtain ⟨ao, cap, rfl, hnil, hc⟩ := id h
  have hz := hide (zzbytes4 w ao l.length cap x m n hl)
  clear hnil hc
  go_enter Try.func4, Try.ntmps4
  go_wp2_with fail
  refine hz.out.mono ?_
  rintro e w' ⟨⟨tb, rfl⟩, hw⟩
  obtain rfl := hw.symm
  clear hw hz
  cases tb
  · go_wp2_with fail
    go_ret
    exact ⟨rfl, Below.refl _ _⟩
  by_cases h1 : (1048576 : Int) < l.length
  · go_wp2_with fail
    go_ret
    exact ⟨rfl, Below.refl _ _⟩
  have h1d : decide ((1048576 : Int) < l.length) = false := by simpa using h1
  by_cases hx0 : x < 0
  · have hx0d : decide (x < 0) = true := by simpa using hx0
    go_wp2_with fail
    go_ret
    exact ⟨rfl, Below.refl _ _⟩
  have hx0d : decide (x < 0) = false := by simpa using hx0
  by_cases hm0 : m < 0
  · have hm0d : decide (m < 0) = true := by simpa using hm0
    go_wp2_with fail
    go_ret
    exact ⟨rfl, Below.refl _ _⟩
  have hm0d : decide (m < 0) = false := by simpa using hm0
  by_cases hm1 : 65536 < m
  · have hm1d : decide (65536 < m) = true := by simpa using hm1
    go_wp2_with fail
    go_ret
    exact ⟨rfl, Below.refl _ _⟩
  have hm1d : decide (65536 < m) = false := by simpa using hm1
  by_cases hn0 : n < 0
  · have hn0d : decide (n < 0) = true := by simpa using hn0
    go_wp2_with fail
    go_ret
    exact ⟨rfl, Below.refl _ _⟩
  have hn0d : decide (n < 0) = false := by simpa using hn0
  by_cases hn1 : 65536 < n
  · go_wp2_with fail
    go_ret
    exact ⟨rfl, Below.refl _ _⟩
  have hn1d : decide (65536 < n) = false := by simpa using hn1
  obtain ⟨X, rfl⟩ : ∃ X : Nat, x = X := ⟨x.toNat, by omega⟩
  obtain ⟨M, rfl⟩ : ∃ M : Nat, m = M := ⟨m.toNat, by omega⟩
  obtain ⟨N, rfl⟩ : ∃ N : Nat, n = N := ⟨n.toNat, by omega⟩
  go_wp2_with fail
  have hll : l.length ≤ 1048576 := by omega
  have hXX : X ≤ 9223372036854775807 := by omega
  clear h1d hx0d hm0d hm1d hn0d hn1d
  -- b := copy(b)
  refine (copy_any w w.heap.size _ l h (by omega) (Nat.le_refl _)).mono ?_
  rintro e w1 ⟨vb, rfl, rb, b1⟩
  obtain ⟨ab, cb, rfl⟩ := rb.isSlice
  go_wp2_with fail
  -- orig := copy(b)
  refine (copy_any w1 w1.heap.size _ l rb.bytes (by omega) (Nat.le_refl _)).mono ?_
  rintro e w2 ⟨vo, rfl, ro, b2⟩
  obtain ⟨aO, cO, rfl⟩ := ro.isSlice
  go_wp2_with fail
  -- b1 := copy(b)
  refine (copy_any w2 w1.heap.size _ l (rb.bytes.below b2) (by omega) b2.size).mono ?_
  rintro e w3 ⟨v1, rfl, r1, b3⟩
  obtain ⟨a1, c1, rfl⟩ := r1.isSlice
  go_wp2_with fail
  -- b2 := copy(b)
  refine (copy_any w3 w1.heap.size _ l (rb.bytes.below (b2.trans (b3.mono b2.size))) (by omega) (Nat.le_trans b2.size b3.size)).mono ?_
  rintro e w4 ⟨v2, rfl, r2, b4⟩
  obtain ⟨a2, c2, rfl⟩ := r2.isSlice
  go_wp2_with fail
  -- whole := appendDigits(b1, v, m+n)
  have hA := app_any w4 w2.heap.size _ l X (M + N) (r1.below b4) hXX (by omega) (by omega) (Nat.le_trans b3.size b4.size)
  rw [Int.natCast_add] at hA
  refine hA.mono ?_
  rintro e w5 ⟨vw, rfl, rw5, g5, at5⟩
  clear hA
  have ro5 := ((ro.below b3).below b4).keep g5 (apart_of fun i j hi hj e => by have := ro.inside i hi; have := r1.inside j hj; omega)
  have r25 := r2.keep g5 (apart_of fun i j hi hj e => by have := r2.inside i hi; have := r1.inside j hj; omega)
  have bel4 : Below w.heap.size w w4 := ((b1.trans (b2.mono b1.size)).trans (b3.mono (Nat.le_trans b1.size b2.size))).trans (b4.mono (Nat.le_trans b1.size (Nat.le_trans b2.size b3.size)))
  have bel5 := bel4.grown g5 bel4.size (fun k hk => by have := r1.inside k hk; have := b1.size; have := b2.size; omega)
  obtain ⟨aw, cw, hvw⟩ := rw5.isSlice
  rw [List.length_append, sfx_length] at hvw
  subst hvw
  go_wp2_with fail
  refine (pow_any w5 N (by omega)).mono ?_
  rintro e w5' ⟨hpow, hw⟩
  obtain rfl := hw.symm
  clear hw
  obtain ⟨pv, fb, rfl⟩ : ∃ pv fb, e = .returned (.tuple #[.int .i64 pv, .bool fb]) := by rcases hpow with ⟨_, rfl⟩ | ⟨_, rfl⟩ <;> exact ⟨_, _, rfl⟩
  have HPow := hide hpow
  clear hpow
  go_upto_if 69 with fail
  go_cut [13, 14] (fun s13 s14 wx => s13 = .int .i64 ((hiOf X N : Nat) : Int) ∧ s14 = .int .i64 ((loOf X N : Nat) : Int) ∧ wx = w5)
  case first =>
    rcases HPow.out with ⟨hN, e⟩ | ⟨hN, e⟩
    · injection e with e; injection e with e; simp at e
      obtain ⟨e1, rfl⟩ := e
      have hpv : pv = ((10 ^ N : Nat) : Int) := by rw [e1]; simp
      have hp1 : 1 ≤ 10 ^ N := Nat.one_le_pow _ _ (by omega)
      have hpv1 : 1 ≤ pv := by omega
      have hpv0 : 0 < pv := by omega
      have eh : Hid ((X : Int) / pv = ((hiOf X N : Nat) : Int)) := by rw [hpv]; unfold hiOf; rw [if_pos hN]; rfl
      have el : Hid ((X : Int) % pv = ((loOf X N : Nat) : Int)) := by rw [hpv]; unfold loOf; rw [if_pos hN]; rfl
      have hq1 : 0 ≤ (X : Int) / pv := Int.ediv_nonneg (by omega) (by omega)
      have hq2 : (X : Int) / pv ≤ 9223372036854775807 := Int.le_trans (Int.ediv_le_self _ (by omega)) (by omega)
      clear e1 hpv hp1
      go_wp2_with fail
      go_meet
      case rel => exact ⟨by rw [← eh.out], by rw [← el.out], rfl⟩
    · injection e with e; injection e with e; simp at e
      obtain ⟨rfl, rfl⟩ := e
      have eh : hiOf X N = 0 := by unfold hiOf; rw [if_neg (by omega)]
      have el : loOf X N = X := by unfold loOf; rw [if_neg (by omega)]
      have HE := hide (And.intro eh el)
      clear eh el
      go_wp2_with fail
      go_meet
      case rel => exact ⟨by rw [HE.out.1]; rfl, by rw [HE.out.2], rfl⟩
  case rest =>
    obtain ⟨rfl, rfl, hwc⟩ := hcut
    obtain rfl := hwc.symm
    go_wp2_with fail
    -- mid := appendDigits(b2, hi, m)
    have hhi : hiOf X N ≤ 9223372036854775807 := by unfold hiOf; split; exact Nat.le_trans (Nat.div_le_self _ _) hXX; omega
    have hlo : loOf X N ≤ 9223372036854775807 := by unfold loOf; split; exact Nat.le_trans (Nat.mod_le _ _) hXX; exact hXX
    refine (app_any w5 w3.heap.size _ l (hiOf X N) M r25 hhi (by omega) (by omega) (Nat.le_trans b4.size g5.size)).mono ?_
    rintro e w6 ⟨vm, rfl, rm6, g6, at6⟩
    have hap : ∀ i j, Value.ownBlock (.slice aw (l.length + (M + N)) cw) = some i → Value.ownBlock (.slice a2 l.length c2) = some j → i ≠ j := fun i j hi hj e => by
      have h2 := r2.inside j hj
      rcases at5 with h | h
      · have := r1.inside i (by rw [← h]; exact hi); omega
      · rw [hi] at h; injection h with h; omega
    have rw6 := rw5.keep g6 (apart_of hap)
    have ro6 := ro5.keep g6 (apart_of fun i j hi hj e => by have := ro.inside i hi; have := r2.inside j hj; have := b3.size; omega)
    have bel6 := bel5.grown g6 bel5.size (fun k hk => by have := r2.inside k hk; have := b1.size; have := b2.size; have := b3.size; omega)
    obtain ⟨am, cm, hvm⟩ := rm6.isSlice
    rw [List.length_append, sfx_length] at hvm
    subst hvm
    go_wp2_with fail
    -- two := appendDigits(mid, lo, n)
    have hB := app_any w6 w3.heap.size _ (l ++ sfx (hiOf X N) M) (loOf X N) N rm6 hlo (by omega) (by rw [List.length_append, sfx_length]; omega) (Nat.le_trans b4.size (Nat.le_trans g5.size g6.size))
    refine hB.mono ?_
    rintro e w7 ⟨vt, rfl, rt7, g7, at7⟩
    clear hB
    have hap2 : ∀ i j, Value.ownBlock (.slice aw (l.length + (M + N)) cw) = some i → Value.ownBlock (.slice am (l.length + M) cm) = some j → i ≠ j := fun i j hi hj e => by
      rcases at6 with h | h
      · exact hap i j hi (by rw [← h]; exact hj) e
      · rw [hj] at h; injection h with h
        have := rw5.inside i hi
        omega
    have rw7 := rw6.keep g7 (apart_of hap2)
    have ro7 := ro6.keep g7 (apart_of fun i j hi hj e => by
      have h1 := ro.inside i hi
      have := b3.size; have := b4.size; have := g5.size
      rcases at6 with h | h
      · have := r2.inside j (by rw [← h]; exact hj); omega
      · rw [hj] at h; injection h with h; omega)
    have bel7 := bel6.grown g7 bel6.size (fun k hk => by have := rm6.inside k hk; have := b1.size; have := b2.size; have := b3.size; omega)
    rw [List.append_assoc, ← split_law hXX] at rt7
    obtain ⟨at_, ct, hvt⟩ := rt7.isSlice
    rw [List.length_append, sfx_length] at hvt
    subst hvt
    have ho := ro7.bytes
    have hwb := rw7.bytes
    have htb := rt7.bytes
    clear ro rb r1 r2 r25 ro5 ro6 rw6 rw5 rm6 rt7 rw7 ro7 at5 at6 at7 g5 g6 g7 b1 b2 b3 b4 bel4 bel5 bel6 hap hap2
    have co := ho.cells
    have cwh := hwb.cells
    have ctw := htb.cells
    clear ho hwb htb
    have hTl : (l ++ sfx X (M + N)).length = l.length + (M + N) := by rw [List.length_append, sfx_length]
    have hdig : ∀ j c, l.length ≤ j → (l ++ sfx X (M + N))[j]? = some c → 48 ≤ c.toNat ∧ c.toNat ≤ 57 := fun j c hj hc => by
      rw [List.getElem?_append_right hj] at hc
      exact sfx_dig _ _ c (List.mem_of_getElem? hc)
    have hlast : 0 < M + N → (l ++ sfx X (M + N))[l.length + (M + N) - 1]? = some (digB X 0) := last_sfx
    have hhead : ∀ j c, l[j]? = some c → (l ++ sfx X (M + N))[j]? = some c := fun j c hj => by rw [List.getElem?_append_left (List.getElem?_eq_some_iff.1 hj).1]; exact hj
    generalize l ++ sfx X (M + N) = T at cwh ctw hTl hdig hlast hhead
    have HT := hide hTl
    have Hdig := hide hdig
    have Hlast := hide hlast
    have Hhead := hide hhead
    clear hTl hdig hlast hhead
    go_wp2_with fail
    go_loopw [19] (fun i wr => ∃ j q : Nat, j ≤ l.length ∧ i = .int .i64 j ∧ wr = w7.drewN q) (fun i _ => l.length - (intOf i).toNat)
    case atStart => exact ⟨0, 0, Nat.zero_le _, rfl, rfl⟩
    case round =>
      obtain ⟨j, q, hj, rfl, hwr⟩ := hrel
      have HW := hide hwr
      by_cases hjlt : j < l.length
      · rcases co with hn | ⟨b1, o1, rfl, hc1⟩
        · rw [hn] at hjlt; simp at hjlt
        rcases cwh with hn | ⟨b2, o2, rfl, hc2⟩
        · have := HT.out; rw [hn] at this; simp at this; omega
        obtain ⟨c, hxc⟩ : ∃ c, l[j]? = some c := ⟨_, List.getElem?_eq_getElem hjlt⟩
        have d1 := hc1 j c hxc
        have d2 := hc2 j c (Hhead.out j c hxc)
        rw [← cell_n hwr] at d1 d2
        have hjl : (j : Int) < l.length := by omega
        have hjl2 : (j : Int) < ((l.length + (M + N) : Nat) : Int) := by omega
        clear hc1 hc2 hxc hwr ctw
        go_wp2_with fail
        go_quiet (fail)
        go_wp2_with fail
        go_roundw
        case rel => exact ⟨j + 1, q + nq, by omega, by go_num, by rw [HW.out, World.drewN_drewN]⟩
        case measure => simp [intOf]; omega
      · have bel8 := bel_n hwr bel7
        have cwh2 : T = [] ∨ ∃ b off, aw = some ⟨b, off, none⟩ ∧ ∀ j c, T[j]? = some c → wr.cell? ⟨b, off + j, none⟩ = some (.int .u8 (c.toNat : Int)) := by
          rcases cwh with e | ⟨b, off, e, hc⟩
          · exact Or.inl e
          · exact Or.inr ⟨b, off, e, fun j c hjc => (cell_n hwr).trans (hc j c hjc)⟩
        have ctw2 : T = [] ∨ ∃ b off, at_ = some ⟨b, off, none⟩ ∧ ∀ j c, T[j]? = some c → wr.cell? ⟨b, off + j, none⟩ = some (.int .u8 (c.toNat : Int)) := by
          rcases ctw with e | ⟨b, off, e, hc⟩
          · exact Or.inl e
          · exact Or.inr ⟨b, off, e, fun j c hjc => (cell_n hwr).trans (hc j c hjc)⟩
        clear cwh ctw co hwr HW bel7
        go_wp2_with fail
        go_loop [20] (fun i => ∃ k : Nat, l.length ≤ k ∧ k ≤ l.length + (M + N) ∧ i = .int .i64 k) (fun i => l.length + (M + N) - (intOf i).toNat)
        case atStart => exact ⟨l.length, Nat.le_refl _, by omega, rfl⟩
        case round =>
          obtain ⟨k, hk1, hk2, rfl⟩ := hrel
          by_cases hklt : k < l.length + (M + N)
          · rcases cwh2 with hn | ⟨b2, o2, rfl, hc2⟩
            · have := HT.out; rw [hn] at this; simp at this; omega
            obtain ⟨c, hxc⟩ : ∃ c, T[k]? = some c := ⟨_, List.getElem?_eq_getElem (by rw [HT.out]; exact hklt)⟩
            have d2 := hc2 k c hxc
            have hd := Hdig.out k c hk1 hxc
            have hd1 : 48 ≤ (c.toNat : Int) := by omega
            have hd2 : (c.toNat : Int) ≤ 57 := by omega
            have hd1d : decide ((c.toNat : Int) < 48) = false := by simp; omega
            have hd2d : decide (57 < (c.toNat : Int)) = false := by simp; omega
            have hkl2 : (k : Int) < ((l.length + (M + N) : Nat) : Int) := by omega
            clear hc2 hxc hd ctw2
            go_wp2_with fail
            go_round
            case rel => exact ⟨k + 1, by omega, by omega, by go_num⟩
            case measure => simp [intOf]; omega
          · go_wp2_with fail
            go_loopw [21] (fun i wi => ∃ j q : Nat, j ≤ l.length + (M + N) ∧ i = .int .i64 j ∧ wi = wr.drewN q) (fun i _ => l.length + (M + N) - (intOf i).toNat)
            case atStart => exact ⟨0, 0, Nat.zero_le _, rfl, rfl⟩
            case round =>
              obtain ⟨i, q2, hi, rfl, hwi⟩ := hrel
              have HW := hide hwi
              by_cases hilt : i < l.length + (M + N)
              · rcases cwh2 with hn | ⟨b2, o2, rfl, hc2⟩
                · have := HT.out; rw [hn] at this; simp at this; omega
                rcases ctw2 with hn | ⟨b3, o3, rfl, hc3⟩
                · have := HT.out; rw [hn] at this; simp at this; omega
                obtain ⟨c, hxc⟩ : ∃ c, T[i]? = some c := ⟨_, List.getElem?_eq_getElem (by rw [HT.out]; exact hilt)⟩
                have d2 := hc2 i c hxc
                have d3 := hc3 i c hxc
                rw [← cell_n hwi] at d2 d3
                have hil2 : (i : Int) < ((l.length + (M + N) : Nat) : Int) := by omega
                clear hc2 hc3 hxc hwi
                go_wp2_with fail
                go_quiet (fail)
                go_wp2_with fail
                go_roundw
                case rel => exact ⟨i + 1, q2 + nq, by omega, by go_num, by rw [HW.out, World.drewN_drewN]⟩
                case measure => simp [intOf]; omega
              · have bel9 := bel_n hwi bel8
                rcases Nat.eq_zero_or_pos (M + N) with hpos | hpos
                rotate_left
                · rcases cwh2 with hn | ⟨b2, o2, rfl, hc2⟩
                  · have := HT.out; rw [hn] at this; simp at this; omega
                  have d2 := hc2 _ _ (Hlast.out hpos)
                  rw [← cell_n hwi, digB_toNat, show l.length + (M + N) - 1 = l.length + M + N - 1 by omega, Nat.pow_zero, Nat.div_one, show ((48 + X % 10 : Nat) : Int) = 48 + (X : Int) % 10 by omega] at d2
                  have hpi : (0 : Int) < (M : Int) + (N : Int) := by omega
                  have hpd : decide ((0 : Int) < (M : Int) + (N : Int)) = true := by simpa using hpi
                  clear hc2 hwi ctw2
                  go_wp2_with fail
                  go_ret
                  exact ⟨rfl, bel9⟩
                · have hpi : ¬ (0 : Int) < (M : Int) + (N : Int) := by omega
                  have hpd : decide ((0 : Int) < (M : Int) + (N : Int)) = false := by simpa using hpi
                  clear hwi
                  go_wp2_with fail
                  go_ret
                  exact ⟨rfl, bel9⟩

end Go.Proofs.Qxb6617372a
