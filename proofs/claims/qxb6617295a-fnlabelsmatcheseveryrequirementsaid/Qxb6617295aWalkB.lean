/-
  THE WALK of '(*Labels).add'.
-/
import Derived.Test.Qxb6617295aWalkZ
namespace Go.Proofs.Qxb6617295a
open Go.RowKit

/-- the look-up in byKey. -/
theorem SelP.look {w : World} {base sb mb : Nat} {S : St} {rv : Value} {D : DataW Unit} {tag : Nat → Option (ByteArray × Nat)} (h : SelP w base sb S mb rv D tag) {k : ByteArray} (hk : k ∈ S.keys) (hs : k.size ≤ maxLen) :
    ∃ rb : Nat, D.atKey (klit k) .nil = .lit (.int .i64 rb) ∧ (Instr.lookup 25 (.map (some mb)) (.string k) true).run Try.prog w = .ok (.tuple #[.pointer (some ⟨rb, 0, none⟩), .bool true]) w := by
  obtain ⟨rb, hat, he⟩ := h.ents k hk
  obtain ⟨v, ps, hrun, hv⟩ := h.own.look_ok law9 Try.underlying25 (zero50 w) (zd := .nil) (zp := []) rfl (Go.WideMaps.keyOf_string_mk Try.underlying9 hs)
  rw [show D.atKey (.string k.data.toList) .nil = .lit (.int .i64 rb) from hat] at hv
  obtain rfl := ptrElem_inv hv
  rw [show Maps.has D (.string k.data.toList) = true from has_of_at hat] at hrun
  exact ⟨rb, hat, hrun⟩
theorem SelP.look_no {w : World} {base sb mb : Nat} {S : St} {rv : Value} {D : DataW Unit} {tag : Nat → Option (ByteArray × Nat)} (h : SelP w base sb S mb rv D tag) {k : ByteArray} (hk : k ∉ S.keys) (hs : k.size ≤ maxLen) :
    (Instr.lookup 25 (.map (some mb)) (.string k) true).run Try.prog w = .ok (.tuple #[.pointer none, .bool false]) w := by
  obtain ⟨v, ps, hrun, hv⟩ := h.own.look_ok law9 Try.underlying25 (zero50 w) (zd := .nil) (zp := []) rfl (Go.WideMaps.keyOf_string_mk Try.underlying9 hs)
  have hno : Maps.has D (.string k.data.toList) = false := (h.nots k hk).1
  rw [Maps.atKey_of_not_has hno] at hv
  obtain rfl := ptrElem_nil_inv hv
  rw [hno] at hrun
  exact hrun

theorem SelP.look_any {w : World} {base sb mb : Nat} {S : St} {rv : Value} {D : DataW Unit} {tag : Nat → Option (ByteArray × Nat)} (h : SelP w base sb S mb rv D tag) {k : ByteArray} (hs : k.size ≤ maxLen) :
    ∃ pv nb, (Instr.lookup 25 (.map (some mb)) (.string k) true).run Try.prog w = .ok (.tuple #[pv, .bool nb]) w ∧
      ((nb = true ∧ k ∈ S.keys ∧ ∃ rb : Nat, pv = .pointer (some ⟨rb, 0, none⟩) ∧ D.atKey (klit k) .nil = .lit (.int .i64 rb)) ∨ (nb = false ∧ pv = .pointer none ∧ k ∉ S.keys)) := by
  by_cases hin : k ∈ S.keys
  · obtain ⟨rb, hat, hlk⟩ := h.look hin hs
    exact ⟨_, _, hlk, Or.inl ⟨rfl, hin, rb, rfl, hat⟩⟩
  · exact ⟨_, _, h.look_no hin hs, Or.inr ⟨rfl, rfl, hin⟩⟩
theorem named_in {S : St} {k : ByteArray} (h : k ∈ S.keys) : S.named k = S := by unfold St.named; rw [if_pos (among_iff.2 h)]
theorem named_not {S : St} {k : ByteArray} (h : k ∉ S.keys) : S.named k = S.mention k := by unfold St.named; rw [if_neg (fun e => h (among_iff.1 e))]

/-- The selector where the requirement of 'key' lies in block rb. -/
def SelK (w : World) (base sb : Nat) (S : St) (key : ByteArray) (rb : Nat) : Prop :=
  ∃ mb rv D tag, SelP w base sb S mb rv D tag ∧ key ∈ S.keys ∧ D.atKey (klit key) .nil = .lit (.int .i64 rb)

theorem row_shape {w : World} {base e size n : Nat} {v : Value} {xs : List Value} (h : w.ownsRow base e size v (n + 1) xs) : ∃ g cap, v = .slice (some ⟨g, 0, none⟩) (n + 1) cap := by
  rcases h.2 with ⟨_, h0⟩ | ⟨g, cap, cur, hv, _⟩
  · cases h0
  · exact ⟨g, cap, hv⟩

theorem run_makeMap_n (n : Nat) (w : World) : (Instr.makeMap 54 (some (.int .i64 (n : Int)))).run Try.prog w = .ok (.map (some w.heap.size)) (w.alloc (.map #[] 0)) := by
  simp [Instr.makeMap, run_underlying Try.underlying54, go_sem]

/-- A look-up in a set that may be nil. -/
theorem BM.look {w : World} {n : Nat} {m : Option Nat} {o : Option (ByteArray → Bool)} (h : BM w n m o) {v : ByteArray} (hv : v.size ≤ maxLen) :
    (Instr.lookup 54 (.map m) (.string v) false).run Try.prog w = .ok (.bool (ninM o v)) w := by
  have hkey := Go.WideMaps.keyOf_string_mk Try.underlying9 hv
  cases m with
  | none => cases o with
    | none => exact Maps.look_nil false law9 Try.underlying54 (zero4 w) hkey
    | some f => exact h.elim
  | some b => cases o with
    | none => exact h.elim
    | some f =>
      obtain ⟨D, hown, hf⟩ := h
      obtain ⟨x, ps, hrun, hx⟩ := hown.lookup law9 Try.underlying54 (zero4 w) (plainElem_bool Try.underlying4 false) hkey
      rw [show D.atKey (.string v.data.toList) (.lit (.bool false)) = .lit (.bool (f v)) from hf v] at hx
      have : x = .bool (f v) := by
        unfold plainElem at hx
        rw [Try.underlying4] at hx
        cases x <;> simp at hx
        rw [hx.1]
      rw [this] at hrun
      exact hrun

theorem BM.none {w : World} {n : Nat} {o : Option (ByteArray → Bool)} (h : BM w n none o) : o = none := by
  cases o with
  | none => rfl
  | some f => exact h.elim
theorem BM.some {w : World} {n b : Nat} {o : Option (ByteArray → Bool)} (h : BM w n (some b) o) : ∃ f, o = some f := by
  cases o with
  | none => exact h.elim
  | some f => exact ⟨f, rfl⟩

theorem setNin_same {S : St} {k : ByteArray} {f : ByteArray → Bool} (h : S.nin k = some f) : S.setNin k f 0 = S := by
  have : upd S.nin k (some f) = S.nin := by
    funext x
    by_cases hx : x = k
    · subst hx; rw [upd_same, h]
    · exact upd_other _ _ _ hx
  simp [St.setNin, this]
theorem setNin_twice (S : St) (k : ByteArray) (f g : ByteArray → Bool) (n m : Nat) : (S.setNin k f n).setNin k g m = S.setNin k g (n + m) := by
  have : upd (upd S.nin k (some f)) k (some g) = upd S.nin k (some g) := by
    funext x
    by_cases hx : x = k
    · subst hx; rw [upd_same, upd_same]
    · rw [upd_other _ _ _ hx, upd_other _ _ _ hx, upd_other _ _ _ hx]
  simp [St.setNin, this, Nat.add_assoc]
theorem SelP.ninMap {w : World} {base sb mb rb nb j : Nat} {S : St} {rv : Value} {D : DataW Unit} {tag : Nat → Option (ByteArray × Nat)} {k : ByteArray} {f : ByteArray → Bool} {a b : Bool} {im : Option Nat}
    (h : SelP w base sb (S.setNin k f j) mb rv D tag) (hk : k ∈ (S.setNin k f j).keys) (hat : D.atKey (klit k) .nil = .lit (.int .i64 rb)) (hh : w.heap[rb]? = some (.cells #[.bool a, .bool b, .map im, .map (some nb)] 56)) :
    tag rb = some (k, 0) ∧ tag nb = some (k, 2) ∧ (S.setNin k f j).pres k = a ∧ (S.setNin k f j).absn k = b ∧ ∃ Dn : DataW Unit, w.ownsMap Try.prog 9 (plainElem Try.prog 4) nb (S.nmax + j) Dn ∧ ∀ v, Dn.atKey (klit v) (.lit (.bool false)) = .lit (.bool (f v)) := by
  obtain ⟨im', nm', hh', t0, b1, b2, t1, t2⟩ := h.entAt hk hat
  rw [hh] at hh'
  injection hh' with e; injection e with e _ _; injection e with e; simp at e
  obtain ⟨rfl, rfl, rfl, rfl⟩ := e
  refine ⟨t0, t2 nb rfl, rfl, rfl, ?_⟩
  have e2 : (S.setNin k f j).nin k = some f := upd_same _ _ _
  rw [e2] at b2
  exact b2

set_option maxRecDepth 8000 in
set_option maxHeartbeats 1000000 in
theorem add_any (w : World) (base sb : Nat) (S : St) (key op : ByteArray) (sv : Value) (vs : List ByteArray) (hS : Sel w base sb S) (hv : StrsAt base w sv vs) (hk : key.size ≤ maxLen)
    (hroom : S.keys.length < maxLen) (hn : S.nmax + vs.length < maxLen) (hreq : (S.reqd.length + 1) * 16 ≤ 140737488355328) :
    Calls Try.prog 24 #[.pointer (some ⟨sb, 0, none⟩), .string key, .string op, sv] w fun e w' => e = .returned (.tuple #[]) ∧ Sel w' base sb (((S.named key).demand key op).sets key op vs) ∧ Below base w w' := by
  obtain ⟨mb, rv, D, tag, hS⟩ := hS
  have c0 : w.cell? ⟨sb, 0, none⟩ = some (.map (some mb)) := by rw [cell_of hS.blk]; rfl
  have hbase : base ≤ w.heap.size := Nat.le_trans hS.bsb (Nat.le_of_lt (lt_of_heap hS.blk))
  obtain ⟨pv, nb, hlk, hcase⟩ := hS.look_any hk
  go_enter Try.func24, Try.ntmps24
  go_upto_if 25 with fail
  go_cut [8] (fun s8 wx => ∃ rb : Nat, s8 = .pointer (some ⟨rb, 0, none⟩) ∧ SelK wx base sb (S.named key) key rb ∧ Below base w wx)
  case first =>
    rcases hcase with ⟨rfl, hin, rb, rfl, hat⟩ | ⟨rfl, rfl, hin⟩
    · go_wp2_with fail
      go_meet
      case rel => exact ⟨rb, rfl, ⟨mb, rv, D, tag, by rw [named_in hin]; exact hS, by rw [named_in hin]; exact hin, hat⟩, Below.refl _ _⟩
    · clear hlk
      have hsb := lt_of_heap hS.blk
      have hown := hS.own.alloc (.cells #[.bool false, .bool false, .map none, .map none] 56)
      go_wp2_with (first | (at_mapUpdate; refine wpList_mapUpdate_own _ rfl _ _ _ 25 rfl 9 50 law9 Try.underlying25 ptrElem mb S.keys.length D rfl hown hroom _ _ _ rfl rfl (Go.WideMaps.keyOf_string_mk Try.underlying9 hk) _ [] (ptrElem_mk _) ?_; intro w1 hown1 hgrow1))
      go_meet
      case rel =>
        refine ⟨w.heap.size, rfl, ⟨mb, rv, _, _, by rw [named_not hin]; exact hS.new hin hbase hown1 hgrow1, by rw [named_not hin]; simp [St.mention], Maps.atKey_put_same hS.own.isMap (klit_key _) _ _⟩, ?_⟩
        exact ((Below.refl _ _).alloc hbase _).grown hgrow1 (by simp; omega) (fun x hx => by cases hx; exact hS.bmb)
  case rest =>
    obtain ⟨rb, rfl, hK, hb⟩ := hcut
    have hS1 : (S.named key).nmax = S.nmax ∧ (S.named key).reqd = S.reqd := by unfold St.named; split <;> exact ⟨rfl, rfl⟩
    obtain ⟨hn1, hr1⟩ := hS1
    obtain ⟨S1, HS1⟩ : ∃ S1, Hid (S.named key = S1) := ⟨_, rfl⟩
    rw [HS1.out] at hK hn1 hr1
    rw [← hn1] at hn
    rw [← hr1] at hreq
    clear hn1 hr1 hroom hcase hlk c0 hS
    obtain ⟨mb1, rv1, D1, tag1, hS, hkk, hat⟩ := hK
    have hE := hS.entAt hkk hat
    obtain ⟨im, nm, hblk, t0, b1, b2, t1, t2⟩ := hE
    have c0 : wc.cell? ⟨rb, 0, none⟩ = some (.bool (S1.pres key)) := by rw [cell_of hblk]; rfl
    go_upto_region 4 with fail
    go_cut [46] (fun s46 wx => s46 = .bool (!S1.pres key && dem op) ∧ wx = wc)
    case first =>
      cases hp : S1.pres key
      · rw [hp] at c0
        by_cases h1 : op.toList = [105, 110]
        · go_wp2_with fail
          go_meet
          case rel => exact ⟨by simp [dem, isIn, h1, hp], rfl⟩
        · have h1b : (op.toList == [105, 110]) = false := by simp [h1]
          go_wp2_with fail
          go_meet
          case rel => exact ⟨by simp [dem, isIn, isEx, h1b, hp], rfl⟩
      · rw [hp] at c0
        go_wp2_with fail
        go_meet
        case rel => exact ⟨by simp [hp], rfl⟩
    case rest =>
      obtain ⟨rfl, rfl⟩ := hcut
      clear c0
      go_upto_if 46 with fail
      go_cut [8] (fun s8 wx => s8 = .pointer (some ⟨rb, 0, none⟩) ∧ SelK wx base sb (S1.demand key op) key rb ∧ Below base w wx)
      case first =>
        cases hd : (!S1.pres key && dem op)
        · go_wp2_with fail
          go_meet
          case rel => exact ⟨rfl, ⟨mb1, rv1, D1, tag1, by unfold St.demand; rw [hd]; exact hS, by unfold St.demand; rw [hd]; exact hkk, hat⟩, hb⟩
        · have f0 : wc.frozen? ⟨rb, 0, none⟩ = false := frozen_of hblk
          have c0 : wc.cell? ⟨rb, 0, none⟩ = some (.bool (S1.pres key)) := by rw [cell_of hblk]; rfl
          have hS2 := hS.setPres hkk hat
          have hb2 : Below base w (wc.setCell ⟨rb, 0, none⟩ (.bool true)) := hb.setCell (hS.tags rb _ t0).1 _
          have hkk2 : key ∈ (S1.setPres key).keys := hkk
          have hreq2 : ((S1.setPres key).reqd.length + 1) * 16 ≤ 140737488355328 := hreq
          have hdem : Hid (S1.demand key op = (S1.setPres key).req key) := by unfold St.demand; rw [hd]; rfl
          go_upto_region 6 with fail
          generalize wc.setCell ⟨rb, 0, none⟩ (.bool true) = w2 at hS2 hb2 ⊢
          generalize S1.setPres key = S2 at hS2 hkk2 hreq2 hdem
          clear f0 c0 hblk b1 b2 t1 t2 hS hkk hreq hv hn hd
          have c1 : w2.cell? ⟨sb, 1, none⟩ = some rv1 := by rw [cell_of hS2.blk]; rfl
          have hsb := lt_of_heap hS2.blk
          have hbase2 : base ≤ w2.heap.size := Nat.le_trans hS2.bsb (Nat.le_of_lt hsb)
          obtain ⟨i0, hi, hz0, hz1, hz2⟩ := info_parts info9
          go_wp2_with (first | (at_builtin; refine wpList_append_own_at _ rfl _ _ 26 rfl base 9 i0 (.string ByteArray.empty) 1 16 Try.underlying26 hi hz0 hz1 hz2 rfl (by decide) rv1 _ _ rfl (hS2.row.alloc _) ⟨w2.heap.size, 0, none⟩ 1 1 [.string key] rfl rfl (cell_one_new _ _ _) (by simp [Value.oneCell']) (by unfold maxLen; omega) (by omega) (by simp; omega) ?_; intro v' w1 hown' hgrow hnil hloc; obtain ⟨g, cap, rfl⟩ := row_shape hown'; clear hnil; have hblk1 := hS2.req_blk ((Below.refl _ _).alloc (Nat.le_refl _) _) hgrow; have c1' := cell_of (i := 1) hblk1; have f1' := frozen_of (i := 1) hblk1))
          go_meet
          case rel =>
            have hS3 := hS2.req ((Below.refl _ _).alloc (Nat.le_refl _) _) hown' hgrow hloc
            refine ⟨rfl, ⟨mb1, _, D1, tag1, by rw [hdem.out]; exact hS3, by rw [hdem.out]; exact hkk2, hat⟩, ?_⟩
            exact ((hb2.alloc hbase2 _).grown hgrow (by simp; omega) (fun x hx => (hS2.row.lt x hx).1)).setCell hS2.bsb _
      case rest =>
        obtain ⟨rfl, hK, hb3⟩ := hcut
        have hS2 : (S1.demand key op).nmax = S1.nmax := by unfold St.demand; split <;> rfl
        obtain ⟨S2, HS2⟩ : ∃ S2, Hid (S1.demand key op = S2) := ⟨_, rfl⟩
        rw [HS2.out] at hK hS2
        rw [← hS2] at hn
        clear hS2 hblk b1 b2 t0 t1 t2 hat hkk hS hreq hb
        obtain ⟨mb2, rv2, D2, tag2, hS, hkk, hat⟩ := hK
        obtain ⟨im, nm, hblk, t0, b1, b2, t1, t2⟩ := hS.entAt hkk hat
        obtain ⟨ao, cap, rfl, hvl, hvs, hvc⟩ := hv
        have hrb := hS.tags rb _ t0
        have hbase3 : base ≤ wc.heap.size := Nat.le_of_lt (Nat.lt_of_le_of_lt hrb.1 hrb.2)
        have HF : Hid (((S.named key).demand key op).sets key op vs = S2.sets key op vs) := by rw [HS1.out, HS2.out]; rfl
        by_cases h1 : op.toList = [105, 110]
        · have hmm := run_makeMap_n
          have hfin : Hid (S2.sets key op vs = S2.setIn key (fun v => hasV vs v && inM (S2.inn key) v) vs.length) := by unfold St.sets; rw [if_pos (by simp [isIn, h1])]; rfl
          have hc : vs = [] ∨ ∃ b off, ao = some ⟨b, off, none⟩ ∧ b < base ∧ ∀ j x, vs[j]? = some x → w.cell? ⟨b, off + j, none⟩ = some (.string x) := by
            rcases hvc with e | ⟨b, off, e1, e2, e3⟩
            · exact Or.inl e
            · exact Or.inr ⟨b, off, e2, e1, e3⟩
          go_wp2_with fail
          go_loopw [68] (fun i wr => ∃ (j : Nat) (Di : DataW Unit), j ≤ vs.length ∧ i = .int .i64 j ∧ Below wc.heap.size wc wr ∧ wr.ownsMap Try.prog 9 (plainElem Try.prog 4) wc.heap.size j Di ∧ ∀ v, Di.atKey (klit v) (.lit (.bool false)) = .lit (.bool (hasV (vs.take j) v && inM (S2.inn key) v))) (fun i _ => vs.length - (intOf i).toNat)
          case atStart => exact ⟨0, .map [], Nat.zero_le _, rfl, (Below.refl _ _).alloc (Nat.le_refl _) _, World.ownsMap_made _ _ _ _, fun v => rfl⟩
          case round =>
            obtain ⟨j, Di, hj, rfl, hbr, hown, hf⟩ := hrel
            have HFi := hide hf
            clear hf hmm
            by_cases hlt : j < vs.length
            · obtain ⟨x, hx⟩ : ∃ x, vs[j]? = some x := ⟨_, List.getElem?_eq_getElem hlt⟩
              rcases hc with hnil | ⟨b, off, rfl, hbb, hcell⟩
              · rw [hnil] at hlt; simp at hlt
              have hcx := hcell j x hx
              rw [← (hb3.trans (hbr.mono hbase3)).cell (p := ⟨b, _, none⟩) hbb] at hcx
              have hxs := le_max (hvs x (List.mem_of_getElem? hx))
              have c2 : wr.cell? ⟨rb, 2, none⟩ = some (.map im) := by rw [hbr.cell (p := ⟨rb, _, none⟩) hrb.2, cell_of hblk]; rfl
              have hnil := fun r => run_eql_map_nil (P := Try.prog) wr 54 9 4 r Try.underlying54
              have hlk := (b1.keep (w' := wr) (Nat.le_refl _) (fun b e => hbr.block b (hS.tags b _ (t1 b e)).2)).look hxs
              have HX := hide hx
              have hmap := hown.isMap
              have hst : ∀ w1, wr.grownBy w1 (some wc.heap.size) → Below wc.heap.size wc w1 := fun w1 hg => hbr.grown hg hbr.size (fun k e => by cases e; exact Nat.le_refl _)
              clear hcell hx hvs
              cases im with
              | none =>
                have hinn : inM (S2.inn key) x = true := by rw [b1.none]; rfl
                go_wp2_with (first | (at_mapUpdate; refine wpList_mapUpdate_own _ rfl _ _ _ 54 rfl 9 4 law9 Try.underlying54 (plainElem Try.prog 4) wc.heap.size j Di rfl hown (by omega) _ _ _ rfl rfl (Go.WideMaps.keyOf_string_mk Try.underlying9 hxs) _ [] (plainElem_bool Try.underlying4 true) ?_; intro w1 hown1 hgrow1))
                go_roundw
                case rel => exact ⟨j + 1, _, by omega, by go_num, hst _ hgrow1, hown1, in_yes hmap HFi.out HX.out hinn⟩
                case measure => simp [intOf]; omega
              | some ib =>
                obtain ⟨f, hfi⟩ := b1.some
                have hninM : ninM (S2.inn key) x = f x := by rw [hfi]; rfl
                rw [hninM] at hlk
                cases hfx : f x
                · have hinn : inM (S2.inn key) x = false := by rw [hfi]; exact hfx
                  rw [hfx] at hlk
                  go_wp2_with fail
                  go_roundw
                  case rel => exact ⟨j + 1, _, by omega, by go_num, hbr, hown.mono (Nat.le_succ _), in_no HFi.out HX.out hinn⟩
                  case measure => simp [intOf]; omega
                · have hinn : inM (S2.inn key) x = true := by rw [hfi]; exact hfx
                  rw [hfx] at hlk
                  go_wp2_with (first | (at_mapUpdate; refine wpList_mapUpdate_own _ rfl _ _ _ 54 rfl 9 4 law9 Try.underlying54 (plainElem Try.prog 4) wc.heap.size j Di rfl hown (by omega) _ _ _ rfl rfl (Go.WideMaps.keyOf_string_mk Try.underlying9 hxs) _ [] (plainElem_bool Try.underlying4 true) ?_; intro w1 hown1 hgrow1))
                  go_roundw
                  case rel => exact ⟨j + 1, _, by omega, by go_num, hst _ hgrow1, hown1, in_yes hmap HFi.out HX.out hinn⟩
                  case measure => simp [intOf]; omega
            · have hblkr := (hbr.block rb hrb.2).trans hblk
              have c2 := cell_of (i := 2) hblkr
              have f2 := frozen_of (i := 2) hblkr
              go_wp2_with fail
              go_end0
              refine ⟨rfl, ?_, ?_⟩
              · rw [HF.out, hfin.out]
                refine ⟨mb2, rv2, D2, _, hS.setIn hkk hat hbr (Nat.le_refl _) hbase3 (hown.mono hj) (fun v => ?_)⟩
                rw [HFi.out v, hasV_all hlt]
              · exact (hb3.trans (hbr.mono hbase3)).setCell hrb.1 _
        · have h1b : (op.toList == [105, 110]) = false := by simp [h1]
          by_cases h2 : op.toList = [110, 111, 116, 105, 110]
          · have hmm := run_makeMap_n
            have hfin : Hid (S2.sets key op vs = S2.setNin key (fun v => ninM (S2.nin key) v || hasV vs v) vs.length) := by unfold St.sets; rw [if_neg (by simp [isIn, h1]), if_pos (by simp [isNotin, h2])]; rfl
            have c3 := cell_of (i := 3) hblk
            have f3 := frozen_of (i := 3) hblk
            have hnil := fun r => run_eql_map_nil (P := Try.prog) wc 54 9 4 r Try.underlying54
            go_upto_if 98 with fail
            go_cut [8] (fun s8 wx => s8 = .pointer (some ⟨rb, 0, none⟩) ∧ (∃ tag3 nb, SelP wx base sb (S2.setNin key (fun v => ninM (S2.nin key) v) 0) mb2 rv2 D2 tag3 ∧ wx.heap[rb]? = some (.cells #[.bool (S2.pres key), .bool (S2.absn key), .map im, .map (some nb)] 56)) ∧ Below base w wx)
            case first =>
              cases nm with
              | none =>
                have hnin : S2.nin key = none := b2.none
                have hz : (fun v => ninM (S2.nin key) v) = (fun _ => false) := by rw [hnin]; rfl
                go_wp2_with fail
                go_meet
                case rel =>
                  rw [← World.setCell_alloc_past _ _ _ _ hrb.2]
                  refine ⟨rfl, ⟨_, wc.heap.size, by rw [hz]; exact hS.newNin hkk hat ((Below.refl _ _).alloc (Nat.le_refl _) _) (Nat.le_refl _) hbase3 (World.ownsMap_made _ _ _ _), ?_⟩, (hb3.alloc hbase3 _).setCell hrb.1 _⟩
                  rw [heap_setCell_same ((Below.heap_alloc _ _ _ hrb.2).trans hblk)]
                  rfl
              | some nb =>
                obtain ⟨f, hf⟩ := b2.some
                have hz : (fun v => ninM (S2.nin key) v) = f := by rw [hf]; rfl
                go_wp2_with fail
                go_meet
                case rel => exact ⟨rfl, ⟨tag2, nb, by rw [hz, setNin_same hf]; exact hS, hblk⟩, hb3⟩
            case rest =>
              obtain ⟨rfl, ⟨tag3, nb, hS3, hblk3⟩, hb4⟩ := hcut
              clear c3 f3 hnil hmm hb3 hblk b1 b2 t0 t1 t2 hS hbase3 hrb h1 h1b h2
              have hkk3 : ∀ f j, key ∈ (S2.setNin key f j).keys := fun _ _ => hkk
              go_wp2_with fail
              go_loopw [107] (fun i wr => ∃ j : Nat, j ≤ vs.length ∧ i = .int .i64 j ∧ SelP wr base sb (S2.setNin key (fun v => ninM (S2.nin key) v || hasV (vs.take j) v) j) mb2 rv2 D2 tag3 ∧ wr.heap[rb]? = some (.cells #[.bool (S2.pres key), .bool (S2.absn key), .map im, .map (some nb)] 56) ∧ Below base w wr) (fun i _ => vs.length - (intOf i).toNat)
              case atStart =>
                have hz : (fun v => ninM (S2.nin key) v || hasV (vs.take 0) v) = (fun v => ninM (S2.nin key) v) := by funext v; rw [hasV_zero, Bool.or_false]
                exact ⟨0, Nat.zero_le _, rfl, by rw [hz]; exact hS3, hblk3, hb4⟩
              case round =>
                obtain ⟨j, hj, rfl, hSr, hblkr, hbr⟩ := hrel
                by_cases hlt : j < vs.length
                · obtain ⟨x, hx⟩ : ∃ x, vs[j]? = some x := ⟨_, List.getElem?_eq_getElem hlt⟩
                  rcases hvc with hnil | ⟨b, off, hbb, rfl, hcell⟩
                  · rw [hnil] at hlt; simp at hlt
                  have hcx := hcell j x hx
                  rw [← hbr.cell (p := ⟨b, _, none⟩) hbb] at hcx
                  have hxs := le_max (hvs x (List.mem_of_getElem? hx))
                  have c3 := cell_of (i := 3) hblkr
                  obtain ⟨t0, t2, e1, e2, Dn, hown, hf⟩ := hSr.ninMap (hkk3 _ _) hat hblkr
                  have HN := hide hf
                  have HE := hide (And.intro e1 e2)
                  have HX := hide hx
                  have hmap := hown.isMap
                  have hne : rb ≠ nb := fun e => by rw [e, t2] at t0; simp at t0
                  clear hcell hx hvs hf e1 e2 hS3 hblk3 hb4
                  go_wp2_with (first | (at_mapUpdate; refine wpList_mapUpdate_own _ rfl _ _ _ 54 rfl 9 4 law9 Try.underlying54 (plainElem Try.prog 4) nb (S2.nmax + j) Dn rfl hown (by omega) _ _ _ rfl rfl (Go.WideMaps.keyOf_string_mk Try.underlying9 hxs) _ [] (plainElem_bool Try.underlying4 true) ?_; intro w1 hown1 hgrow1))
                  go_roundw
                  case rel =>
                    have hP := hSr.putNin (v := x) (hkk3 _ _) hat (by rw [HE.out.1, HE.out.2]; exact hblkr) HN.out hmap hown1 hgrow1
                    rw [setNin_twice] at hP
                    have hz : (fun v => (ninM (S2.nin key) v || hasV (vs.take j) v) || (x.toList == v.toList)) = (fun v => ninM (S2.nin key) v || hasV (vs.take (j + 1)) v) := by funext v; rw [hasV_take HX.out, Bool.or_assoc]
                    rw [hz] at hP
                    exact ⟨j + 1, by omega, by go_num, hP, (hgrow1.block rb (lt_of_heap hblkr) (by simpa using hne)).trans hblkr, hbr.grown hgrow1 (Nat.le_of_lt (Nat.lt_of_le_of_lt (hSr.tags rb _ t0).1 (hSr.tags rb _ t0).2)) (fun k e => by cases e; exact (hSr.tags nb _ t2).1)⟩
                  case measure => simp [intOf]; omega
                · have hz : (fun v => ninM (S2.nin key) v || hasV (vs.take j) v) = (fun v => ninM (S2.nin key) v || hasV vs v) := by funext v; rw [hasV_all hlt]
                  have hjl : j = vs.length := by omega
                  rw [hz, hjl] at hSr
                  clear hjl hz
                  go_wp2_with fail
                  go_end0
                  refine ⟨rfl, ?_, hbr⟩
                  rw [HF.out, hfin.out]
                  exact ⟨mb2, rv2, D2, tag3, hSr⟩
          · have h2b : (op.toList == [110, 111, 116, 105, 110]) = false := by simp [h2]
            by_cases h3 : op.toList = [33]
            · have hfin : Hid (S2.sets key op vs = (S2.setAbs key).room vs.length) := by unfold St.sets; rw [if_neg (by simp [isIn, h1]), if_neg (by simp [isNotin, h2]), if_pos (by simp [isNo, h3])]; rfl
              have c1 := cell_of (i := 1) hblk
              have f1 := frozen_of (i := 1) hblk
              go_wp2_with fail
              go_end0
              refine ⟨rfl, ?_, hb3.setCell hrb.1 _⟩
              rw [HF.out, hfin.out]
              exact ⟨mb2, rv2, D2, tag2, (hS.setAbs hkk hat).room _⟩
            · have h3b : (op.toList == [33]) = false := by simp [h3]
              have hfin : Hid (S2.sets key op vs = S2.room vs.length) := by unfold St.sets; rw [if_neg (by simp [isIn, h1]), if_neg (by simp [isNotin, h2]), if_neg (by simp [isNo, h3])]; rfl
              go_wp2_with fail
              go_end0
              refine ⟨rfl, ?_, hb3⟩
              rw [HF.out, hfin.out]
              exact ⟨mb2, rv2, D2, tag2, hS.room _⟩

end Go.Proofs.Qxb6617295a
