/-
  THE WALK of FnAppendDigitsThenDigits.
-/
import Derived.Test.Qxb6617372aSplit
namespace Go.Proofs.Qxb6617372a
open Go.RowKit

theorem fold_push (l : List UInt8) (s : ByteArray) : ((l.map (fun c => (c.toNat : Int))).foldl (fun r n => r.push (UInt8.ofNat n.toNat)) s).data.toList = s.data.toList ++ l := by
  induction l generalizing s with
  | nil => simp
  | cons c l ih =>
    rw [List.map_cons, List.foldl_cons, ih]
    have e : (UInt8.ofNat ((c.toNat : Int)).toNat) = c := by simp
    rw [e]
    have e2 : (s.push c).data.toList = s.data.toList ++ [c] := by
      show (s.data.push c).toList = _
      simp
    rw [e2]; simp

/-- 'string(b)' of bytes that lie there. -/
theorem run_conv (w : World) (ao : Option Addr) (n c : Nat) (l : List UInt8) (hn : l.length = n) (hc : n = 0 ∨ ∃ b off, ao = some ⟨b, off, none⟩ ∧ ∀ j c, l[j]? = some c → w.cell? ⟨b, off + j, none⟩ = some (.int .u8 (c.toNat : Int))) :
    ∃ s : ByteArray, s.data.toList = l ∧ (convert 22 9 (.slice ao n c)).run Try.prog w = .ok (.string s) w := by
  rw [run_convert_bytes_string w 22 9 5 ao n c Try.underlying22 Try.underlying5 Try.underlying9]
  cases ao with
  | none =>
    rcases hc with rfl | ⟨b, off, e, _⟩
    · have : l = [] := List.eq_nil_of_length_eq_zero hn
      subst this
      exact ⟨ByteArray.empty, rfl, rfl⟩
    · cases e
  | some a =>
    have hload : (loadCells a n).run Try.prog w = .ok ((l.map (fun c => (c.toNat : Int))).map (Value.int .u8)).toArray w := by
      have hl2 : ((l.map (fun c => (c.toNat : Int))).map (Value.int .u8)).length = n := by simp [hn]
      rw [← hl2]
      refine run_loadCells_list w a _ (fun j u hu => ?_)
      rcases hc with rfl | ⟨b, off, e, hcell⟩
      · have : l = [] := List.eq_nil_of_length_eq_zero hn
        subst this
        simp at hu
      · injection e with e
        subst e
        rw [Addr.add_lit]
        rw [List.getElem?_map, List.getElem?_map] at hu
        cases hj : l[j]? with
        | none => rw [hj] at hu; cases hu
        | some c =>
          rw [hj] at hu
          injection hu with hu
          rw [hcell j c hj, ← hu]
    exact ⟨_, by rw [fold_push]; rfl, run_bytesToString w a n c _ hload⟩

theorem wp_conv (w : World) {ops : Array Oper} {rest : List Oper} {o : Oper} {a : Act} {Q : Exit → Act → World → Prop} (hg : o.guard = none) (x : Operand) (ho : o.op = Op.convert 22 9 x) (ao : Option Addr) (n c : Nat) (l : List UInt8) (hx : a.eval x = .slice ao n c)
    (hn : l.length = n) (hc : n = 0 ∨ ∃ b off, ao = some ⟨b, off, none⟩ ∧ ∀ j c, l[j]? = some c → w.cell? ⟨b, off + j, none⟩ = some (.int .u8 (c.toNat : Int)))
    (h : ∀ s : ByteArray, s.data.toList = l → wpList Try.prog ops Q rest (a.put o.dst (.string s)) w) : wpList Try.prog ops Q (o :: rest) a w := by
  refine wpList_plain hg fun K hK => ?_
  obtain ⟨s, hs, hr⟩ := run_conv w ao n c l hn hc
  unfold Oper.wp
  simp [execOp, ho, hx, hr, Result.andThen]
  exact hK _ _ (h s hs)

set_option maxRecDepth 8000 in
set_option maxHeartbeats 1000000 in
theorem then_any (w : World) (v : Value) (l : List UInt8) (x n : Int) (h : BytesAt w.heap.size w v l) (hl : l.length ≤ maxLen) (hx : x ≤ 9223372036854775807) :
    Calls Try.prog 3 #[v, .int .i64 x, .int .i64 n] w fun e w' => e = .returned (.bool true) ∧ Below w.heap.size w w' := by
  obtain ⟨ao, cap, rfl, hnil, hc⟩ := id h
  have hz := hide (zzbytes3 w ao l.length cap x n hl)
  clear hnil hc
  go_enter Try.func3, Try.ntmps3
  go_wp2_with fail
  refine hz.out.mono ?_
  rintro e w' ⟨⟨tb, rfl⟩, hw⟩
  obtain rfl := hw.symm
  clear hw hz
  cases tb
  · go_wp2_with fail
    go_ret
    exact ⟨rfl, Below.refl _ _⟩
  by_cases h1 : (1048576 : Int) < l.length
  · go_wp2_with fail
    go_ret
    exact ⟨rfl, Below.refl _ _⟩
  have h1d : decide ((1048576 : Int) < l.length) = false := by simpa using h1
  by_cases hx0 : x < 0
  · have hx0d : decide (x < 0) = true := by simpa using hx0
    go_wp2_with fail
    go_ret
    exact ⟨rfl, Below.refl _ _⟩
  have hx0d : decide (x < 0) = false := by simpa using hx0
  by_cases hn0 : n < 0
  · have hn0d : decide (n < 0) = true := by simpa using hn0
    go_wp2_with fail
    go_ret
    exact ⟨rfl, Below.refl _ _⟩
  have hn0d : decide (n < 0) = false := by simpa using hn0
  by_cases hn1 : 65536 < n
  · go_wp2_with fail
    go_ret
    exact ⟨rfl, Below.refl _ _⟩
  have hn1d : decide (65536 < n) = false := by simpa using hn1
  obtain ⟨X, rfl⟩ : ∃ X : Nat, x = X := ⟨x.toNat, by omega⟩
  obtain ⟨N, rfl⟩ : ∃ N : Nat, n = N := ⟨n.toNat, by omega⟩
  go_wp2_with fail
  have hll : l.length ≤ 1048576 := by omega
  have hXX : X ≤ 9223372036854775807 := by omega
  clear h1d hx0d hn0d hn1d
  -- b := copy(b)
  refine (copy_any w w.heap.size _ l h (by omega) (Nat.le_refl _)).mono ?_
  rintro e w1 ⟨vb, rfl, rb, b1⟩
  obtain ⟨ab, cb, rfl⟩ := rb.isSlice
  go_wp2_with fail
  -- orig := copy(b)
  refine (copy_any w1 w1.heap.size _ l rb.bytes (by omega) (Nat.le_refl _)).mono ?_
  rintro e w2 ⟨vo, rfl, ro, b2⟩
  obtain ⟨aO, cO, rfl⟩ := ro.isSlice
  go_wp2_with fail
  -- out := appendDigits(b, v, n)
  refine (app_any w2 w.heap.size _ l X N (rb.below b2) hXX (by omega) (by omega) (Nat.le_trans b1.size b2.size)).mono ?_
  rintro e w3 ⟨vw, rfl, rw3, g3, at3⟩
  have ro3 := ro.keep g3 (apart_of fun i j hi hj e => by have := ro.inside i hi; have := rb.inside j hj; omega)
  have bel2 : Below w.heap.size w w2 := b1.trans (b2.mono b1.size)
  have bel3 := bel2.grown g3 bel2.size (fun k hk => (rb.inside k hk).1)
  obtain ⟨aw, cw, hvw⟩ := rw3.isSlice
  rw [List.length_append, sfx_length] at hvw
  subst hvw
  have hcap : (aw = none ∧ cw = 0 ∧ l.length + N = 0) ∨ ∃ g, aw = some ⟨g, 0, none⟩ ∧ l.length + N ≤ cw ∧ ∀ j c, (l ++ sfx X N)[j]? = some c → w3.cell? ⟨g, 0 + j, none⟩ = some (.int .u8 (c.toNat : Int)) := by
    rcases id rw3.2 with ⟨e, h0⟩ | ⟨g, cap', cur, e, _, hg, hnc, _⟩
    · injection e with e1 e2 e3
      exact Or.inl ⟨e1, e3, e2⟩
    · injection e with e1 e2 e3
      rw [List.length_append, sfx_length] at hnc
      refine Or.inr ⟨g, e1, by omega, fun j c hj => ?_⟩
      have := rw3.cells (g := g) (by rw [e1]; rfl) j (cellB c) (bcells_get hj)
      rwa [Addr.add_lit] at this
  have co := ro3.bytes.cells
  have hTl : (l ++ sfx X N).length = l.length + N := by rw [List.length_append, sfx_length]
  have hhead : ∀ j c, l[j]? = some c → (l ++ sfx X N)[j]? = some c := fun j c hj => by rw [List.getElem?_append_left (List.getElem?_eq_some_iff.1 hj).1]; exact hj
  have htail : ∀ j c, (sfx X N)[j]? = some c → (l ++ sfx X N)[l.length + j]? = some c := fun j c hj => by rw [List.getElem?_append_right (by omega), Nat.add_sub_cancel_left]; exact hj
  generalize l ++ sfx X N = T at hcap hTl hhead htail
  have HT := hide hTl
  have Hhead := hide hhead
  have Htail := hide htail
  have HP := hide (pow_any · N (by omega))
  clear rb ro rw3 ro3 g3 at3 b1 b2 bel2 hTl hhead htail
  go_wp2_with fail
  go_loopw [9] (fun i wr => ∃ j q : Nat, j ≤ l.length ∧ i = .int .i64 j ∧ wr = w3.drewN q) (fun i _ => l.length - (intOf i).toNat)
  case atStart => exact ⟨0, 0, Nat.zero_le _, rfl, rfl⟩
  case round =>
    obtain ⟨j, q, hj, rfl, hwr⟩ := hrel
    have HW := hide hwr
    by_cases hjlt : j < l.length
    · rcases co with hn | ⟨b1, o1, rfl, hc1⟩
      · rw [hn] at hjlt; simp at hjlt
      rcases hcap with ⟨_, _, h0⟩ | ⟨g, rfl, hlc, hc2⟩
      · omega
      obtain ⟨c, hxc⟩ : ∃ c, l[j]? = some c := ⟨_, List.getElem?_eq_getElem hjlt⟩
      have d1 := hc1 j c hxc
      have d2 := hc2 j c (Hhead.out j c hxc)
      rw [Nat.zero_add] at d2
      rw [← cell_n hwr] at d1 d2
      have hjl : (j : Int) < l.length := by omega
      have hjl2 : (j : Int) < ((l.length + N : Nat) : Int) := by omega
      clear hc1 hc2 hxc hwr
      go_wp2_with fail
      go_quiet (fail)
      go_wp2_with fail
      go_roundw
      case rel => exact ⟨j + 1, q + nq, by omega, by go_num, by rw [HW.out, World.drewN_drewN]⟩
      case measure => simp [intOf]; omega
    · have bel4 := bel_n hwr bel3
      have hsl := sfx_length X N
      have hcells : ∀ g, aw = some ⟨g, 0, none⟩ → ∀ k c, (sfx X N)[k]? = some c → wr.cell? ⟨g, l.length + k, none⟩ = some (.int .u8 (c.toNat : Int)) := fun g hg k c hk => by
        rcases hcap with ⟨e, _⟩ | ⟨g', e, _, hc2⟩
        · rw [hg] at e; cases e
        · rw [hg] at e; injection e with e; injection e with e
          subst e
          rw [cell_n hwr]
          have := hc2 _ _ (Htail.out k c hk)
          rwa [Nat.zero_add] at this
      have HCl := hide hcells
      have HSl := hide hsl
      clear hcells hsl hwr HW co bel3
      have HDg : Hid (∀ (s : ByteArray) (wx : World), s.data.toList = sfx X N → Calls Try.prog 11 #[.string s] wx fun e w' => e = .returned (.tuple #[.int .i64 ((loOf X N : Nat) : Int), .bool true]) ∧ Below wx.heap.size wx w') := fun s wx hs => by
        have hsz : s.size = N := by
          have : s.data.toList.length = s.size := by simp
          rw [← this, hs, HSl.out]
        refine (digits_any s wx (by unfold maxLen; omega)).mono ?_
        rintro e w' ⟨rfl, hb⟩
        rw [hs, alld_sfx, dnum_yes (alld_sfx X N), then_law hXX]
        exact ⟨rfl, hb⟩
      rcases Nat.eq_zero_or_pos N with hN0 | hNp
      · have HN0 := hide hN0
        clear hN0
        by_cases hcl : cw = l.length
        · subst hcl
          clear hcap
          go_wp2_with (first | (refine wp_conv _ rfl _ rfl _ _ _ (sfx X N) rfl ?_ ?_ ?_))
          · exact HSl.out
          · exact Or.inl HN0.out
          intro s hs
          have HD := hide (HDg.out s wr hs)
          clear hs
          go_wp2_with fail
          refine HD.out.mono ?_
          rintro e w5 ⟨rfl, hb5⟩
          have bel5 := bel4.trans (hb5.mono bel4.size)
          go_wp2_with fail
          refine (HP.out _).mono ?_
          rintro e w6 ⟨hpow, hw6⟩
          obtain rfl := hw6.symm
          rcases hpow with ⟨hN, rfl⟩ | ⟨hN, rfl⟩
          · have hp1 : 1 ≤ 10 ^ N := Nat.one_le_pow _ _ (by omega)
            have el : Hid (((loOf X N : Nat) : Int) = ((X % 10 ^ N : Nat) : Int)) := by unfold loOf; rw [if_pos hN]; rfl
            generalize 10 ^ N = P at hp1 el ⊢
            have hP0 : 0 < (P : Int) := by omega
            go_wp2_with fail
            go_ret
            exact ⟨ret_bool (by rw [el.out]; simp), bel5⟩
          · have el : Hid (loOf X N = X) := by unfold loOf; rw [if_neg (by omega)]; rfl
            rw [el.out]
            go_wp2_with fail
            go_ret
            exact ⟨ret_bool (by simp), bel5⟩
        · rcases hcap with ⟨_, h2, h0⟩ | ⟨g, rfl, hlc, _⟩
          · omega
          have hcne2 : ¬ l.length = cw := by omega
          go_wp2_with (first | (refine wp_conv _ rfl _ rfl _ _ _ (sfx X N) rfl ?_ ?_ ?_))
          · exact HSl.out
          · exact Or.inl HN0.out
          intro s hs
          have HD := hide (HDg.out s wr hs)
          clear hs
          go_wp2_with fail
          refine HD.out.mono ?_
          rintro e w5 ⟨rfl, hb5⟩
          have bel5 := bel4.trans (hb5.mono bel4.size)
          go_wp2_with fail
          refine (HP.out _).mono ?_
          rintro e w6 ⟨hpow, hw6⟩
          obtain rfl := hw6.symm
          rcases hpow with ⟨hN, rfl⟩ | ⟨hN, rfl⟩
          · have hp1 : 1 ≤ 10 ^ N := Nat.one_le_pow _ _ (by omega)
            have el : Hid (((loOf X N : Nat) : Int) = ((X % 10 ^ N : Nat) : Int)) := by unfold loOf; rw [if_pos hN]; rfl
            generalize 10 ^ N = P at hp1 el ⊢
            have hP0 : 0 < (P : Int) := by omega
            go_wp2_with fail
            go_ret
            exact ⟨ret_bool (by rw [el.out]; simp), bel5⟩
          · have el : Hid (loOf X N = X) := by unfold loOf; rw [if_neg (by omega)]; rfl
            rw [el.out]
            go_wp2_with fail
            go_ret
            exact ⟨ret_bool (by simp), bel5⟩
      · rcases hcap with ⟨_, _, h0⟩ | ⟨g, rfl, hlc, _⟩
        · omega
        have hcne : ¬ cw = l.length := by omega
        have hcne2 : ¬ l.length = cw := by omega
        go_wp2_with (first | (refine wp_conv _ rfl _ rfl _ _ _ (sfx X N) rfl ?_ ?_ ?_))
        · exact HSl.out
        · exact Or.inr ⟨g, l.length, rfl, HCl.out g rfl⟩
        intro s hs
        have HD := hide (HDg.out s wr hs)
        clear hs
        go_wp2_with fail
        refine HD.out.mono ?_
        rintro e w5 ⟨rfl, hb5⟩
        have bel5 := bel4.trans (hb5.mono bel4.size)
        go_wp2_with fail
        refine (HP.out _).mono ?_
        rintro e w6 ⟨hpow, hw6⟩
        obtain rfl := hw6.symm
        rcases hpow with ⟨hN, rfl⟩ | ⟨hN, rfl⟩
        · have hp1 : 1 ≤ 10 ^ N := Nat.one_le_pow _ _ (by omega)
          have el : Hid (((loOf X N : Nat) : Int) = ((X % 10 ^ N : Nat) : Int)) := by unfold loOf; rw [if_pos hN]; rfl
          generalize 10 ^ N = P at hp1 el ⊢
          have hP0 : 0 < (P : Int) := by omega
          go_wp2_with fail
          go_ret
          exact ⟨ret_bool (by rw [el.out]; simp), bel5⟩
        · have el : Hid (loOf X N = X) := by unfold loOf; rw [if_neg (by omega)]; rfl
          rw [el.out]
          go_wp2_with fail
          go_ret
          exact ⟨ret_bool (by simp), bel5⟩

end Go.Proofs.Qxb6617372a
