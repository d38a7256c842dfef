/-
  THE WALK of FnLabelsAddRequiredKeysOnceInFirstOrder.
-/
import Derived.Test.Qxb6617295aLaw
namespace Go.Proofs.Qxb6617295a
open Go.RowKit

theorem sel_init (w : World) (A : Obj) (base : Nat) (hb : base ≤ w.heap.size) :
    Sel (((w.alloc A).alloc (.map #[] 0)).alloc (.cells #[.map (some (w.heap.size + 1)), .slice none 0 0] 28)) base (w.heap.size + 2) St.init := by
  have hs1 : (w.alloc A).heap.size = w.heap.size + 1 := by simp
  have hs2 : ((w.alloc A).alloc (.map #[] 0)).heap.size = w.heap.size + 2 := by simp
  refine ⟨w.heap.size + 1, .slice none 0 0, .map [], fun _ => none, ?_, by omega, by omega, rfl, rfl, ?_, rfl, World.ownsRow_nil _ _ _ _, fun _ _ => rfl, fun x p h => (by cases h), fun k hk => (by cases hk), fun k _ => ⟨rfl, rfl, rfl, rfl, rfl⟩⟩
  · have := (MapKept.heap_alloc ((w.alloc A).alloc (.map #[] 0)) (.cells #[.map (some (w.heap.size + 1)), .slice none 0 0] 28)).1
    rwa [hs2] at this
  · have := (World.ownsMap_made (w.alloc A) Try.prog 9 ptrElem).alloc (.cells #[.map (some (w.heap.size + 1)), .slice none 0 0] 28)
    rwa [hs1] at this

/-- A row of strings that the call owns, as a slice of strings. -/
theorem strs_of_row {w : World} {base n : Nat} {v : Value} {R : List ByteArray} (h : w.ownsRow base 9 1 v n (R.map Value.string)) (hR : R.length ≤ 140737488355328) (hx : ∀ x ∈ R, x.size ≤ 140737488355328) : StrsAt w.heap.size w v R := by
  have hl : R.length = n := by have := h.1; simpa using this
  rcases id h.2 with ⟨rfl, h0⟩ | ⟨g, cap, cur, rfl, _, hg, _⟩
  · subst h0
    have : R = [] := List.eq_nil_of_length_eq_zero hl
    subst this
    exact ⟨none, 0, rfl, by simp, by simp, Or.inl rfl⟩
  · refine ⟨_, cap, by rw [hl], hR, hx, Or.inr ⟨g, 0, lt_of_heap hg, rfl, fun j x hj => ?_⟩⟩
    have := h.cells (g := g) rfl j (.string x) (by simp [hj])
    rw [Addr.add_lit] at this
    exact this

theorem row_n {w w' : World} {m base n : Nat} {v : Value} {xs : List Value} (e : w' = w.drewN m) (h : w.ownsRow base 9 1 v n xs) : w'.ownsRow base 9 1 v n xs := by subst e; exact h
theorem cell_n {w w' : World} {m : Nat} {a : Addr} (e : w' = w.drewN m) : w'.cell? a = w.cell? a := by subst e; rfl
theorem bel_n {w w' a : World} {m B : Nat} (e : w' = w.drewN m) (h : Below B a w) : Below B a w' := by subst e; exact h.trans (below_n _ _ _)
def Rk (rs : List Req) (k : Nat) : List ByteArray := (addAll St.init (rs.take k)).reqd
theorem Rk_step {rs : List Req} {k : Nat} {r : Req} (hx : rs[k]? = some r) : Rk rs (k + 1) = if (dem r.op && !seenIn (rs.take k) r.key) = true then Rk rs k ++ [r.key] else Rk rs k := by
  unfold Rk
  rw [List.take_add_one, hx]
  exact reqd_snoc _ _
theorem Rk_skip {rs : List Req} {k : Nat} {r : Req} (hx : rs[k]? = some r) (h : dem r.op = false) : Rk rs (k + 1) = Rk rs k := by rw [Rk_step hx, h]; rfl
theorem Rk_seen {rs : List Req} {k : Nat} {r : Req} (hx : rs[k]? = some r) (h : seenIn (rs.take k) r.key = true) : Rk rs (k + 1) = Rk rs k := by rw [Rk_step hx, h]; simp
theorem Rk_new {rs : List Req} {k : Nat} {r : Req} (hx : rs[k]? = some r) (hd : dem r.op = true) (h : seenIn (rs.take k) r.key = false) : Rk rs (k + 1) = Rk rs k ++ [r.key] := by rw [Rk_step hx, h, hd]; rfl
theorem Rk_len (rs : List Req) (k : Nat) : (Rk rs k).length ≤ k := by
  have := (addAll_bounds St.init (rs.take k)).2.1
  have h2 : (rs.take k).length ≤ k := List.length_take_le _ _
  simp only [St.init, List.length_nil, Nat.zero_add] at this
  exact Nat.le_trans this h2
theorem Rk_mem {rs : List Req} {k : Nat} {x : ByteArray} (h : x ∈ Rk rs k) : ∃ r ∈ rs, r.key = x := by
  have h1 := (inv_all (rs.take k)).reqd x
  unfold Rk at h
  rw [among_iff.2 h] at h1
  obtain ⟨r, hr, hh⟩ := List.any_eq_true.1 h1.symm
  refine ⟨r, List.mem_of_mem_take hr, ?_⟩
  simp at hh
  exact hh.2
theorem Rk_all (rs : List Req) (k : Nat) (hk : ¬ k < rs.length) : Rk rs k = (addAll St.init rs).reqd := by
  unfold Rk; rw [List.take_of_length_le (by omega)]
theorem seen_step {rs : List Req} {j : Nat} {q : Req} (hx : rs[j]? = some q) (k : ByteArray) : seenIn (rs.take (j + 1)) k = (seenIn (rs.take j) k || (dem q.op && (q.key.toList == k.toList))) := by
  unfold seenIn
  rw [List.take_add_one, hx]
  simp
theorem seen_hit {rs : List Req} {j m : Nat} {q : Req} (hx : rs[j]? = some q) (hj : j < m) {k : ByteArray} (hd : dem q.op = true) (h : (q.key.toList == k.toList) = true) : seenIn (rs.take m) k = true := by
  refine List.any_eq_true.2 ⟨q, ?_, by simp [hd, eq_of_beq h]⟩
  refine List.mem_of_getElem? (i := j) ?_
  rw [List.getElem?_take, if_pos hj]
  exact hx

set_option maxRecDepth 8000 in
set_option maxHeartbeats 1000000 in
theorem f5_any (w : World) (rv : Value) (rs : List Req) (h : ReqsAt w.heap.size w rv rs) :
    Calls Try.prog 5 #[rv] w fun e w' => e = .returned (.bool true) ∧ Below w.heap.size w w' := by
  have hz := zzbytes_any w w.heap.size rv rs h
  have hbig := big_any w w.heap.size rv rs h
  obtain ⟨ao, cap, rfl, hm, hr, hc⟩ := id h
  go_enter Try.func5, Try.ntmps5
  go_wp2_with fail
  refine hz.mono ?_
  rintro e w' ⟨⟨t, rfl⟩, hw⟩
  obtain rfl := hw.symm
  clear hw
  cases t
  · go_wp2_with fail
    go_ret
    exact ⟨rfl, Below.refl _ _⟩
  go_wp2_with fail
  refine hbig.mono ?_
  rintro e w1 ⟨hbp, n, rfl⟩
  rcases hbp with rfl | ⟨rfl, hsm⟩
  · go_wp2_with fail
    go_ret
    exact ⟨rfl, below_n _ _ _⟩
  by_cases h4 : (4096 : Int) < rs.length
  · go_wp2_with fail
    go_ret
    exact ⟨rfl, below_n _ _ _⟩
  go_wp2_with fail
  have hnew := new_any (w.drewN n)
  refine hnew.mono ?_
  rintro e w2 ⟨rfl, rfl⟩
  have hS0 : Sel ((((w.drewN n).alloc (.cells #[.map (some (w.heap.size + 1)), .slice none 0 0] 28)).alloc (.map #[] 0)).alloc (.cells #[.map (some (w.heap.size + 1)), .slice none 0 0] 28)) w.heap.size (w.heap.size + 1 + 1) St.init := sel_init (w.drewN n) _ w.heap.size (Nat.le_refl _)
  have hb0 : Below w.heap.size w ((((w.drewN n).alloc (.cells #[.map (some (w.heap.size + 1)), .slice none 0 0] 28)).alloc (.map #[] 0)).alloc (.cells #[.map (some (w.heap.size + 1)), .slice none 0 0] 28)) := (((below_n _ _ _).alloc (Nat.le_refl _) _).alloc (by simp) _).alloc (by simp; omega) _
  go_wp2_with fail
  clear hnew hbig hz
  generalize ((((w.drewN n).alloc (.cells #[.map (some (w.heap.size + 1)), .slice none 0 0] 28)).alloc (.map #[] 0)).alloc (.cells #[.map (some (w.heap.size + 1)), .slice none 0 0] 28)) = w3 at hS0 hb0 ⊢
  generalize w.heap.size + 1 + 1 = sb at hS0 ⊢
  have hbuild := build_any w3 w.heap.size sb St.init _ rs 0 rs.length hS0 (h.below hb0) (Nat.zero_le _) (Nat.le_refl _) hsm (by simp [St.init]) (by simp [St.init]) (by simp [St.init])
  refine hbuild.mono ?_
  rintro e w4 ⟨rfl, hS4, hb4⟩
  clear hbuild hS0
  have hb4' := hb0.trans hb4
  rw [List.take_of_length_le (Nat.le_refl _), List.drop_zero] at hS4
  obtain ⟨mb, gv, D, tag, hP⟩ := hS4
  have c0 : w4.cell? ⟨sb, 0, none⟩ = some (.map (some mb)) := by rw [cell_of hP.blk]; rfl
  have c1 : w4.cell? ⟨sb, 1, none⟩ = some gv := by rw [cell_of hP.blk]; rfl
  obtain ⟨ga, gl, gc, hgv⟩ : ∃ a l c, gv = .slice a l c := by
    rcases hP.row.2 with ⟨e, _⟩ | ⟨g, cap', cur, e, _⟩
    · exact ⟨_, _, _, e⟩
    · exact ⟨_, _, _, e⟩
  subst hgv
  go_wp2_with fail
  refine (required_any w4 _ _ ⟨_, _, _, rfl⟩).mono ?_
  rintro e w5 ⟨rfl, rfl⟩
  have hb5 : Below w.heap.size w (w4.alloc (.cells #[.map (some mb), .slice ga gl gc] 28)) := hb4'.alloc hb4'.size _
  have hrow := hP.row.alloc (.cells #[.map (some mb), .slice ga gl gc] 28)
  generalize w4.alloc (.cells #[.map (some mb), .slice ga gl gc] 28) = w5 at hb5 hrow ⊢
  clear hP c0 c1 hb4 hb4' hb0
  obtain ⟨i0, hi, hz0, hz1, hz2⟩ := info_parts info9
  go_wp2_with (first | (at_make; refine wpList_make_own _ rfl _ _ 26 rfl w5.heap.size 9 i0 (.string ByteArray.empty) 1 Try.underlying26 hi hz0 hz1 _ _ _ rs.length rfl rfl rfl (by rw [hz2]; omega) (by unfold maxLen; omega) (Nat.le_refl _) ?_; intro w6 hown6 hgrow6))
  have hRR : ∀ k, (Rk rs k).length ≤ k := Rk_len rs
  have hb6 : Below w5.heap.size w5 w6 := (Below.refl _ _).grown hgrow6 (Nat.le_refl _) (fun k e => by cases e)
  clear hgrow6
  go_loopw [5, 6] (fun s5 s6 wr => ∃ k : Nat, k ≤ rs.length ∧ s6 = .int .i64 k ∧ wr.ownsRow w5.heap.size 9 1 s5 (Rk rs k).length ((Rk rs k).map Value.string) ∧ Below w5.heap.size w5 wr) (fun _ i _ => rs.length - (intOf i).toNat)
  case atStart => exact ⟨0, Nat.zero_le _, rfl, hown6, hb6⟩
  case round =>
    obtain ⟨k, hk, rfl, hown, hbr⟩ := hrel
    clear hown6 hb6
    have hbw := hb5.trans (hbr.mono hb5.size)
    by_cases hlt : k < rs.length
    · obtain ⟨r, hx⟩ : ∃ x, rs[k]? = some x := ⟨_, List.getElem?_eq_getElem hlt⟩
      rcases hc with hnil | ⟨b, off, hbB, rfl, hcells⟩
      · rw [hnil] at hlt; simp at hlt
      obtain ⟨c0, c1, c2⟩ := hcells k r hx
      rw [← hbw.cell (p := ⟨b, _, none⟩) hbB] at c0 c1
      clear c2
      have HX := hide hx
      have hdm := fun wx => demands_any r.op wx
      clear hx
      cases hd : dem r.op
      · rw [hd] at hdm
        have HR := hide (Rk_skip HX.out hd)
        clear hd hcells
        go_wp2_with (go_at_call 14; refine (hdm _).mono ?_; rintro e w' ⟨rfl, rfl⟩)
        go_roundw
        case rel => exact ⟨k + 1, by omega, by go_num, by rw [HR.out]; exact hown, hbr⟩
        case measure => simp [intOf]; omega
      · rw [hd] at hdm
        have HD := hide hd
        clear hd
        go_wp2_with (go_at_call 14; refine (hdm _).mono ?_; rintro e w' ⟨rfl, hw'⟩; obtain rfl := hw'.symm)
        go_loopw [7, 8] (fun s7 s8 wi => ∃ j m : Nat, j ≤ k ∧ s8 = .int .i64 j ∧ s7 = .bool false ∧ wi = wr.drewN m ∧ seenIn (rs.take j) r.key = false) (fun _ i _ => k - (intOf i).toNat)
        case atStart => exact ⟨0, 0, Nat.zero_le _, rfl, rfl, rfl, rfl⟩
        case round =>
          obtain ⟨j, m, hj, rfl, rfl, hwr, hsn⟩ := hrel
          have hown2 := row_n hwr hown
          have hbr2 := bel_n hwr hbr
          have hbw2 := bel_n hwr hbw
          have HW := hide hwr
          have HS := hide hsn
          clear hwr hsn hown hbr hbw c0 c1
          by_cases hjlt : j < k
          · obtain ⟨q, hxq⟩ : ∃ x, rs[j]? = some x := ⟨_, List.getElem?_eq_getElem (by omega)⟩
            obtain ⟨c0, _, _⟩ := hcells k r HX.out
            obtain ⟨d0, d1, _⟩ := hcells j q hxq
            rw [← hbw2.cell (p := ⟨b, _, none⟩) hbB] at c0 d0 d1
            have HXq := hide hxq
            have hq := fun wx => demands_any q.op wx
            have hkl : (k : Int) < rs.length := by omega
            have hjl : (j : Int) < rs.length := by omega
            have hjl' : j < rs.length := by omega
            clear hxq hdm
            cases hdq : dem q.op
            · rw [hdq] at hq
              have HN : Hid (seenIn (rs.take (j + 1)) r.key = false) := by have := seen_step HXq.out r.key; rw [HS.out, hdq] at this; exact this
              clear hdq
              go_wp2_with fail
              go_quiet ((go_at_call 14; exact Calls.quiet_of_same (hq _)))
              go_wp2_with fail
              go_roundw
              case rel => exact ⟨j + 1, m + nq, by omega, by go_num, rfl, by rw [HW.out, World.drewN_drewN], HN.out⟩
              case measure => simp [intOf]; omega
            · rw [hdq] at hq
              have HDq := hide hdq
              clear hdq
              go_wp2_with fail
              go_quiet ((go_at_call 14; exact Calls.quiet_of_same (hq _)))
              go_wp2_with fail
              · go_roundw
                case rel => exact ⟨k + 1, by omega, by go_num, by rw [Rk_seen HX.out (seen_hit HXq.out hjlt HDq.out ‹_›)]; exact row_n rfl hown2, bel_n rfl hbr2⟩
                case measure => simp [intOf]; omega
              · have hne : (q.key.toList == r.key.toList) = false := by assumption
                have HN : Hid (seenIn (rs.take (j + 1)) r.key = false) := by have := seen_step HXq.out r.key; rw [HS.out, hne, Bool.and_false] at this; exact this
                clear hne
                go_roundw
                case rel => exact ⟨j + 1, m + nq, by omega, by go_num, rfl, by rw [HW.out, World.drewN_drewN], HN.out⟩
                case measure => simp [intOf]; omega
          · obtain ⟨c0, _, _⟩ := hcells k r HX.out
            rw [← hbw2.cell (p := ⟨b, _, none⟩) hbB] at c0
            have HR : Hid (Rk rs (k + 1) = Rk rs k ++ [r.key]) := Rk_new HX.out HD.out (by rw [← HS.out, show j = k by omega])
            have hrk := hRR k
            have hws := hbr2.size
            clear hcells hdm hbw2
            go_wp2_with (first | (at_builtin; refine wpList_append_own_at _ rfl _ _ 26 rfl w5.heap.size 9 i0 (.string ByteArray.empty) 1 16 Try.underlying26 hi hz0 hz1 hz2 rfl (by decide) _ _ _ rfl (hown2.alloc _) ⟨wr.heap.size, 0, none⟩ 1 1 [.string r.key] rfl rfl (cell_one_new _ _ _) (by simp [Value.oneCell']) (by unfold maxLen; omega) (by omega) (by simp; omega) ?_; intro v' w1 hown' hgrow hnil hloc))
            go_roundw
            case rel => exact ⟨k + 1, by omega, by go_num, by rw [HR.out]; simpa using hown', (hbr2.alloc hws _).grown hgrow (by simp; omega) (fun x hx => (hown2.lt x hx).1)⟩
            case measure => simp [intOf]; omega
    · have hRk := Rk_all rs k hlt
      have hl1 : (addAll St.init rs).reqd.length ≤ 140737488355328 := by rw [← hRk]; have := hRR k; omega
      have hl2 : ∀ x ∈ (addAll St.init rs).reqd, x.size ≤ 140737488355328 := fun x hx => by
        rw [← hRk] at hx
        obtain ⟨r, hr1, rfl⟩ := Rk_mem hx
        exact (hr r hr1).1
      have hG := (strs_of_row hrow hl1 hl2).below hbr
      rw [hRk] at hown
      have hWt := strs_of_row hown hl1 hl2
      generalize (addAll St.init rs).reqd = R at hG hWt hl1 hl2
      clear hown hrow hRk hRR hc hr h hl2
      obtain ⟨ao1, cap1, e1, _, _, hg⟩ := hG
      obtain ⟨ao2, cap2, rfl, _, _, hq⟩ := hWt
      injection e1 with e1 e2 e3
      subst e1 e2 e3
      go_wp2_with fail
      go_loopw [9] (fun i wi => ∃ j m : Nat, j ≤ R.length ∧ i = .int .i64 j ∧ wi = wr.drewN m) (fun i _ => R.length - (intOf i).toNat)
      case atStart => exact ⟨0, 0, Nat.zero_le _, rfl, rfl⟩
      case round =>
        obtain ⟨j, m, hj, rfl, hwr⟩ := hrel
        have hbw2 := bel_n hwr hbw
        have HW := hide hwr
        by_cases hjlt : j < R.length
        · rcases hg with hnil | ⟨b1, off1, _, rfl, hc1⟩
          · rw [hnil] at hjlt; simp at hjlt
          rcases hq with hnil | ⟨b2, off2, _, rfl, hc2⟩
          · rw [hnil] at hjlt; simp at hjlt
          obtain ⟨x, hx⟩ : ∃ x, R[j]? = some x := ⟨_, List.getElem?_eq_getElem hjlt⟩
          have c1 := hc1 j x hx
          have c2 := hc2 j x hx
          rw [← cell_n hwr] at c1 c2
          have hjl : (j : Int) < R.length := by omega
          clear hc1 hc2 hx hwr
          go_wp2_with fail
          go_quiet (fail)
          go_wp2_with fail
          go_roundw
          case rel => exact ⟨j + 1, m + nq, by omega, by go_num, by rw [HW.out, World.drewN_drewN]⟩
          case measure => simp [intOf]; omega
        · clear hwr
          go_wp2_with fail
          go_ret
          exact ⟨rfl, hbw2⟩

end Go.Proofs.Qxb6617295a
