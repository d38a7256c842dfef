/-
  THE WALKS of FnLabelsMatchesEveryRequirement and FnLabelsMatchesOrderFree.
-/
import Derived.Test.Qxb6617295aLaw2
namespace Go.Proofs.Qxb6617295a
open Go.RowKit

theorem Small.append {a b : List Req} (h : Small (a ++ b)) : Small (b ++ a) := by
  unfold Small at *
  rw [vtot_append] at *
  simp only [List.length_append] at *
  omega

/-- What a call of ZZMatches answers on a selector that was built from 'l', a script that asks what 'rs' asks. -/
theorem zzm {H : Type} {w : World} {base sb mb : Nat} {rv : Value} {Ds : DataW Unit} {tag : Nat → Option (ByteArray × Nat)} {lv : Value} {look : ByteArray → Option ByteArray} {nl B : Nat} {l : List Req}
    (hP : SelP w base sb (addAll St.init l) mb rv Ds tag) (hL : LabAt H B w lv look nl) (hB : B ≤ w.heap.size) (hk : ∀ r ∈ l, r.key.size ≤ 140737488355328) (hsm : Small l) (hnl : nl ≤ 4096) :
    Calls Try.prog 10 #[.agg #[.map (some mb), rv], lv] w fun e w' => e = .returned (.bool (holdsAll look l)) ∧ Below w.heap.size w w' := by
  have hI := inv_all l
  obtain ⟨q1, q2, _⟩ := addAll_bounds St.init l
  simp only [St.init, List.length_nil, Nat.zero_add] at q1 q2
  obtain ⟨sm1, _⟩ := hsm
  obtain ⟨ls, hls, hin⟩ := hL.keys
  have hg := good_iff (look := look) hI hls hin
  refine (zzmatches_any w B base sb mb _ rv Ds tag lv look nl hP hL hB (sub_keys hI) (fun x hx => ?_) (Nat.le_trans q1 sm1) (Nat.le_trans q2 sm1) hnl).mono ?_
  · obtain ⟨r, hr, rfl⟩ := key_of hI hx
    exact hk r hr
  · rintro e w' ⟨hp, hb⟩
    rcases hp with ⟨rfl, hgood⟩ | ⟨rfl, hgood⟩
    · exact ⟨ret_bool (hg.1 hgood).symm, hb⟩
    · refine ⟨ret_bool ?_, hb⟩
      cases hh : holdsAll look l
      · rfl
      · exact absurd (hg.2 hh) hgood

set_option maxRecDepth 8000 in
set_option maxHeartbeats 1000000 in
theorem f3_any {H : Type} (w : World) (rv lv : Value) (rs : List Req) (look : ByteArray → Option ByteArray) (nl : Nat) (h : ReqsAt w.heap.size w rv rs) (hL : LabAt H w.heap.size w lv look nl) :
    Calls Try.prog 3 #[rv, lv] w fun e w' => e = .returned (.bool true) ∧ Below w.heap.size w w' := by
  have hbig := big_any w w.heap.size rv rs h
  obtain ⟨ao, cap, rfl, hm, hr, hc⟩ := id h
  clear hc
  go_enter Try.func3, Try.ntmps3
  go_wp2_with fail
  refine hbig.mono ?_
  rintro e w1 ⟨hbp, n, rfl⟩
  rcases hbp with rfl | ⟨rfl, hsm⟩
  · go_wp2_with fail
    go_ret
    exact ⟨rfl, below_n _ _ _⟩
  have hln := (hL.below (below_n _ _ n)).len
  by_cases h4 : (4096 : Int) < nl
  · go_wp2_with fail
    go_ret
    exact ⟨rfl, below_n _ _ _⟩
  go_wp2_with fail
  have hnew := new_any (w.drewN n)
  refine hnew.mono ?_
  rintro e w2 ⟨rfl, rfl⟩
  have hS0 : Sel ((((w.drewN n).alloc (.cells #[.map (some (w.heap.size + 1)), .slice none 0 0] 28)).alloc (.map #[] 0)).alloc (.cells #[.map (some (w.heap.size + 1)), .slice none 0 0] 28)) w.heap.size (w.heap.size + 1 + 1) St.init := sel_init (w.drewN n) _ w.heap.size (Nat.le_refl _)
  have hb0 : Below w.heap.size w ((((w.drewN n).alloc (.cells #[.map (some (w.heap.size + 1)), .slice none 0 0] 28)).alloc (.map #[] 0)).alloc (.cells #[.map (some (w.heap.size + 1)), .slice none 0 0] 28)) := (((below_n _ _ _).alloc (Nat.le_refl _) _).alloc (by simp) _).alloc (by simp; omega) _
  clear hln
  go_wp2_with fail
  clear hnew hbig
  generalize ((((w.drewN n).alloc (.cells #[.map (some (w.heap.size + 1)), .slice none 0 0] 28)).alloc (.map #[] 0)).alloc (.cells #[.map (some (w.heap.size + 1)), .slice none 0 0] 28)) = w3 at hS0 hb0 ⊢
  generalize w.heap.size + 1 + 1 = sb at hS0 ⊢
  have hbuild := build_any w3 w.heap.size sb St.init _ rs 0 rs.length hS0 (h.below hb0) (Nat.zero_le _) (Nat.le_refl _) hsm (by simp [St.init]) (by simp [St.init]) (by simp [St.init])
  refine hbuild.mono ?_
  rintro e w4 ⟨rfl, hS4, hb4⟩
  clear hbuild hS0
  have hb4' := hb0.trans hb4
  rw [List.take_of_length_le (Nat.le_refl _), List.drop_zero] at hS4
  obtain ⟨mb, gv, D, tag, hP⟩ := hS4
  have c0 : w4.cell? ⟨sb, 0, none⟩ = some (.map (some mb)) := by rw [cell_of hP.blk]; rfl
  have c1 : w4.cell? ⟨sb, 1, none⟩ = some gv := by rw [cell_of hP.blk]; rfl
  obtain ⟨ga, gl, gc, hgv⟩ : ∃ a l c, gv = .slice a l c := by
    rcases hP.row.2 with ⟨e, _⟩ | ⟨g, cap', cur, e, _⟩
    · exact ⟨_, _, _, e⟩
    · exact ⟨_, _, _, e⟩
  subst hgv
  have HM := hide (zzm hP (hL.below hb4') hb4'.size (fun r hr' => (hr r hr').1) hsm (by omega))
  go_wp2_with fail
  refine HM.out.mono ?_
  rintro e w5 ⟨rfl, hb5⟩
  have hb6 := hb4'.trans (hb5.mono hb4'.size)
  have HS := hide (script_any w5 w.heap.size _ lv rs look (h.below hb6) (hL.below hb6).lookAt)
  clear hP c0 c1 hb4 hb5 hb4' hb0
  go_wp2_with fail
  refine HS.out.mono ?_
  rintro e w6 ⟨rfl, m, rfl⟩
  go_wp2_with fail
  go_ret
  exact ⟨ret_bool (by simp), hb6.trans (below_n _ _ _)⟩

theorem ReqsAt.mono {B B' : Nat} {w : World} {v : Value} {rs : List Req} (h : ReqsAt B w v rs) (hb : B ≤ B') : ReqsAt B' w v rs := by
  obtain ⟨ao, cap, rfl, h1, h2, h3⟩ := h
  refine ⟨ao, cap, rfl, h1, fun r hr => ⟨(h2 r hr).1, (h2 r hr).2.1, (h2 r hr).2.2.mono hb⟩, ?_⟩
  rcases h3 with h3 | ⟨b, off, hlt, e, hc⟩
  · exact Or.inl h3
  · exact Or.inr ⟨b, off, Nat.lt_of_lt_of_le hlt hb, e, hc⟩
theorem sel_shape {w : World} {base sb mb : Nat} {S : St} {gv : Value} {D : DataW Unit} {tag : Nat → Option (ByteArray × Nat)} (hP : SelP w base sb S mb gv D tag) :
    w.cell? ⟨sb, 0, none⟩ = some (.map (some mb)) ∧ w.cell? ⟨sb, 1, none⟩ = some gv ∧ ∃ a l c, gv = .slice a l c := by
  refine ⟨by rw [cell_of hP.blk]; rfl, by rw [cell_of hP.blk]; rfl, ?_⟩
  rcases hP.row.2 with ⟨e, _⟩ | ⟨g, cap', cur, e, _⟩
  · exact ⟨_, _, _, e⟩
  · exact ⟨_, _, _, e⟩
theorem holdsAll_turn (look : ByteArray → Option ByteArray) (rs : List Req) (k : Nat) : holdsAll look (rs.drop k ++ rs.take k) = holdsAll look rs := by
  have h : holdsAll look (rs.take k ++ rs.drop k) = holdsAll look rs := by rw [List.take_append_drop]
  rw [← h]
  unfold holdsAll
  rw [List.all_append, List.all_append, Bool.and_comm]
theorem small_turn {rs : List Req} (h : Small rs) (k : Nat) : Small (rs.drop k ++ rs.take k) := by
  refine Small.append ?_
  rw [List.take_append_drop]; exact h
theorem addAll_append (S : St) (a b : List Req) : addAll (addAll S a) b = addAll S (a ++ b) := by simp [addAll]

set_option maxRecDepth 8000 in
set_option maxHeartbeats 1000000 in
theorem f4_any {H : Type} (w : World) (rv lv : Value) (rs : List Req) (look : ByteArray → Option ByteArray) (nl : Nat) (k : Int) (h : ReqsAt w.heap.size w rv rs) (hL : LabAt H w.heap.size w lv look nl) :
    Calls Try.prog 4 #[rv, lv, .int .i64 k] w fun e w' => e = .returned (.bool true) ∧ Below w.heap.size w w' := by
  have hbig := big_any w w.heap.size rv rs h
  obtain ⟨ao, cap, rfl, hm, hr, hc⟩ := id h
  clear hc
  go_enter Try.func4, Try.ntmps4
  go_wp2_with fail
  refine hbig.mono ?_
  rintro e w1 ⟨hbp, n, rfl⟩
  rcases hbp with rfl | ⟨rfl, hsm⟩
  · go_wp2_with fail
    go_ret
    exact ⟨rfl, below_n _ _ _⟩
  have hln := (hL.below (below_n _ _ n)).len
  by_cases h4 : (4096 : Int) < nl
  · go_wp2_with fail
    go_ret
    exact ⟨rfl, below_n _ _ _⟩
  by_cases hk0 : k < 0
  · have hd : decide (k < 0) = true := by simpa using hk0
    go_wp2_with fail
    go_ret
    exact ⟨rfl, below_n _ _ _⟩
  have hd : decide (k < 0) = false := by simpa using hk0
  by_cases hk1 : (rs.length : Int) < k
  · go_wp2_with fail
    go_ret
    exact ⟨rfl, below_n _ _ _⟩
  obtain ⟨kn, rfl⟩ : ∃ kn : Nat, k = kn := ⟨k.toNat, by omega⟩
  have hkn : kn ≤ rs.length := by omega
  go_wp2_with fail
  clear hln hbig hd hk0 hk1
  refine (new_any (w.drewN n)).mono ?_
  rintro e w2 ⟨rfl, rfl⟩
  have hS0 : Sel ((((w.drewN n).alloc (.cells #[.map (some (w.heap.size + 1)), .slice none 0 0] 28)).alloc (.map #[] 0)).alloc (.cells #[.map (some (w.heap.size + 1)), .slice none 0 0] 28)) w.heap.size (w.heap.size + 1 + 1) St.init := sel_init (w.drewN n) _ w.heap.size (Nat.le_refl _)
  have hb0 : Below w.heap.size w ((((w.drewN n).alloc (.cells #[.map (some (w.heap.size + 1)), .slice none 0 0] 28)).alloc (.map #[] 0)).alloc (.cells #[.map (some (w.heap.size + 1)), .slice none 0 0] 28)) := (((below_n _ _ _).alloc (Nat.le_refl _) _).alloc (by simp) _).alloc (by simp; omega) _
  go_wp2_with fail
  generalize ((((w.drewN n).alloc (.cells #[.map (some (w.heap.size + 1)), .slice none 0 0] 28)).alloc (.map #[] 0)).alloc (.cells #[.map (some (w.heap.size + 1)), .slice none 0 0] 28)) = w3 at hS0 hb0 ⊢
  generalize w.heap.size + 1 + 1 = sb at hS0 ⊢
  refine (build_any w3 w.heap.size sb St.init _ rs 0 rs.length hS0 (h.below hb0) (Nat.zero_le _) (Nat.le_refl _) hsm (by simp [St.init]) (by simp [St.init]) (by simp [St.init])).mono ?_
  rintro e w4 ⟨rfl, hS4, hb4⟩
  clear hS0
  have hb4' := hb0.trans hb4
  rw [List.take_of_length_le (Nat.le_refl _), List.drop_zero] at hS4
  clear hb0 hb4
  go_wp2_with fail
  refine (new_any w4).mono ?_
  rintro e w5 ⟨rfl, rfl⟩
  have hT0 : Sel (((w4.alloc (.cells #[.map (some (w4.heap.size + 1)), .slice none 0 0] 28)).alloc (.map #[] 0)).alloc (.cells #[.map (some (w4.heap.size + 1)), .slice none 0 0] 28)) w4.heap.size (w4.heap.size + 1 + 1) St.init := sel_init w4 _ w4.heap.size (Nat.le_refl _)
  have hc0 : Below w4.heap.size w4 (((w4.alloc (.cells #[.map (some (w4.heap.size + 1)), .slice none 0 0] 28)).alloc (.map #[] 0)).alloc (.cells #[.map (some (w4.heap.size + 1)), .slice none 0 0] 28)) := (((Below.refl _ _).alloc (Nat.le_refl _) _).alloc (by simp) _).alloc (by simp; omega) _
  go_wp2_with fail
  generalize (((w4.alloc (.cells #[.map (some (w4.heap.size + 1)), .slice none 0 0] 28)).alloc (.map #[] 0)).alloc (.cells #[.map (some (w4.heap.size + 1)), .slice none 0 0] 28)) = w5 at hT0 hc0 ⊢
  generalize w4.heap.size + 1 + 1 = sb2 at hT0 ⊢
  have hsz4 : w.heap.size ≤ w4.heap.size := hb4'.size
  have h4' : ReqsAt w4.heap.size w4 (.slice ao rs.length cap) rs := (h.below hb4').mono hsz4
  refine (build_any w5 w4.heap.size sb2 St.init _ rs kn rs.length hT0 (h4'.below hc0) hkn (Nat.le_refl _) hsm (by simp [St.init]) (by simp [St.init]) (by simp [St.init])).mono ?_
  rintro e w6 ⟨rfl, hT6, hc6⟩
  have hc6' := hc0.trans hc6
  rw [List.take_of_length_le (Nat.le_refl _)] at hT6
  clear hc0 hc6 hT0
  go_wp2_with fail
  obtain ⟨q1, q2, q3⟩ := addAll_bounds St.init (rs.drop kn)
  have q4 := vtot_append (rs.take kn) (rs.drop kn)
  rw [List.take_append_drop] at q4
  simp only [St.init, List.length_nil, Nat.zero_add, List.length_drop] at q1 q2 q3
  refine (build_any w6 w4.heap.size sb2 (addAll St.init (rs.drop kn)) _ rs 0 kn hT6 (h4'.below hc6') (Nat.zero_le _) hkn hsm (by have := hsm.1; simp only [St.init]; omega) (by have := hsm.2; simp only [St.init]; omega) (by have := hsm.1; simp only [St.init]; omega)).mono ?_
  rintro e w7 ⟨rfl, hT7, hc7⟩
  have hc7' := hc6'.trans hc7
  rw [List.drop_zero, addAll_append] at hT7
  clear hc6' hc7 hT6 q1 q2 q3 q4
  have hb7 := hb4'.trans (hc7'.mono hsz4)
  have HS := hide (script_any w7 w.heap.size _ lv rs look (h.below hb7) (hL.below hb7).lookAt)
  go_wp2_with fail
  refine HS.out.mono ?_
  rintro e w8 ⟨rfl, m, rfl⟩
  have hb8 : Below w.heap.size w (w7.drewN m) := hb7.trans (below_n _ _ _)
  have hS8 : Sel (w7.drewN m) w.heap.size sb (addAll St.init rs) := hS4.below (hc7'.trans (below_n _ _ _))
  have hT8 : Sel (w7.drewN m) w4.heap.size sb2 (addAll St.init (rs.drop kn ++ rs.take kn)) := hT7.below (below_n _ _ _)
  generalize w7.drewN m = w8 at hb8 hS8 hT8 ⊢
  clear HS hb7 hc7' hT7 hS4 h4' hb4'
  obtain ⟨mb, gv, D, tag, hP⟩ := hS8
  obtain ⟨c0, c1, ga, gl, gc, rfl⟩ := sel_shape hP
  have HM := hide (zzm hP (hL.below hb8) hb8.size (fun r hr' => (hr r hr').1) hsm (by omega))
  clear hP
  go_wp2_with fail
  refine HM.out.mono ?_
  rintro e w9 ⟨rfl, hb9⟩
  have hb9' := hb8.trans (hb9.mono hb8.size)
  have hT9 := hT8.below hb9
  obtain ⟨mb2, gv2, D2, tag2, hP2⟩ := hT9
  obtain ⟨d0, d1, ga2, gl2, gc2, rfl⟩ := sel_shape hP2
  have HM2 := hide (zzm hP2 (hL.below hb9') hb9'.size (fun r hr' => by
    rcases List.mem_append.1 hr' with hr' | hr'
    · exact (hr r (List.mem_of_mem_drop hr')).1
    · exact (hr r (List.mem_of_mem_take hr')).1) (small_turn hsm kn) (by omega))
  rw [holdsAll_turn] at HM2
  clear hP2 c0 c1 HM hT8 hb9 hb8
  go_wp2_with fail
  refine HM2.out.mono ?_
  rintro e w10 ⟨rfl, hb10⟩
  go_wp2_with fail
  go_ret
  exact ⟨ret_bool (by simp), hb9'.trans (hb10.mono hb9'.size)⟩

end Go.Proofs.Qxb6617295a
