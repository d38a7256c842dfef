/-
  THE WALKS of '(*labelRequirement).admits', '(Labels).matches', ZZMatches.
-/
import Derived.Test.Qxb6617295aRowStrs
import Derived.Maps.StringElems
namespace Go.Proofs.Qxb6617295a
open Go.RowKit

/-- Does the requirement of key k let a label by? -/
def adm (S : St) (k v : ByteArray) (p : Bool) : Bool := if p then (!S.absn k && inM (S.inn k) v) && !ninM (S.nin k) v else !S.pres k

set_option maxRecDepth 8000 in
set_option maxHeartbeats 1000000 in
theorem admits_any {w : World} {tag : Nat → Option (ByteArray × Nat)} {S : St} {k : ByteArray} {rb : Nat} (h : Ent w tag S k rb) (v : ByteArray) (hv : v.size ≤ maxLen) (p : Bool) :
    Calls Try.prog 25 #[.pointer (some ⟨rb, 0, none⟩), .string v, .bool p] w fun e w' => e = .returned (.bool (adm S k v p)) ∧ w' = w := by
  obtain ⟨im, nm, hblk, t0, b1, b2, t1, t2⟩ := h
  have c0 : w.cell? ⟨rb, 0, none⟩ = some (.bool (S.pres k)) := by rw [cell_of hblk]; rfl
  have c1 : w.cell? ⟨rb, 1, none⟩ = some (.bool (S.absn k)) := by rw [cell_of hblk]; rfl
  have c2 : w.cell? ⟨rb, 2, none⟩ = some (.map im) := by rw [cell_of hblk]; rfl
  have c3 : w.cell? ⟨rb, 3, none⟩ = some (.map nm) := by rw [cell_of hblk]; rfl
  have hnil := fun r => run_eql_map_nil (P := Try.prog) w 54 9 4 r Try.underlying54
  have l1 := b1.look hv
  have l2 := b2.look hv
  cases p
  · clear hnil l1 l2 c1 c2 c3
    go_enter Try.func25, Try.ntmps25
    go_wp2
    go_ret
    exact ⟨ret_bool rfl, rfl⟩
  · cases ha : S.absn k
    · rw [ha] at c1
      cases im with
      | none =>
        have hi : inM (S.inn k) v = true := by rw [b1.none]; rfl
        have hgoal : Hid (adm S k v true = !ninM (S.nin k) v) := by simp [Hid, adm, ha, hi]
        clear hi ha l1
        go_enter Try.func25, Try.ntmps25
        go_wp2
        go_ret
        exact ⟨ret_bool hgoal.out.symm, rfl⟩
      | some ib =>
        obtain ⟨f, hf⟩ := b1.some
        have hn : ninM (S.inn k) v = f v := by rw [hf]; rfl
        have hi : inM (S.inn k) v = f v := by rw [hf]; rfl
        rw [hn] at l1
        cases hfv : f v
        · have hgoal : Hid (adm S k v true = false) := by simp [Hid, adm, ha, hi, hfv]
          rw [hfv] at l1
          clear hi ha hn hfv
          go_enter Try.func25, Try.ntmps25
          go_wp2
          go_ret
          exact ⟨ret_bool hgoal.out.symm, rfl⟩
        · have hgoal : Hid (adm S k v true = !ninM (S.nin k) v) := by simp [Hid, adm, ha, hi, hfv]
          rw [hfv] at l1
          clear hi ha hn hfv
          go_enter Try.func25, Try.ntmps25
          go_wp2
          go_ret
          exact ⟨ret_bool hgoal.out.symm, rfl⟩
    · rw [ha] at c1
      have hgoal : Hid (adm S k v true = false) := by simp [Hid, adm, ha]
      clear ha
      go_enter Try.func25, Try.ntmps25
      go_wp2
      go_ret
      exact ⟨ret_bool hgoal.out.symm, rfl⟩

/-- WHAT THE LABELS ARE: nil, or a map below block B; 'look': what stands at a key; 'nl': how many there are. -/
def LabAt (H : Type) (B : Nat) (w : World) (lv : Value) (look : ByteArray → Option ByteArray) (nl : Nat) : Prop :=
  (lv = .map none ∧ (∀ k, look k = none) ∧ nl = 0) ∨
  ∃ b n, ∃ D : DataW H, lv = .map (some b) ∧ b < B ∧ w.ownsMap Try.prog 9 (plainElem Try.prog 9) b n D ∧ Maps.size D = nl ∧
    (∀ k v, look k = some v → ∀ z, D.atKey (klit k) z = .lit (.string v.data.toList)) ∧ (∀ k, look k = none → Maps.has D (klit k) = false)

section
variable {H : Type} {B : Nat} {w wx : World} {lv : Value} {look : ByteArray → Option ByteArray} {nl : Nat}

theorem LabAt.below (h : LabAt H B w lv look nl) (hb : Below B w wx) : LabAt H B wx lv look nl := by
  rcases h with h | ⟨b, n, D, e, hlt, hown, r⟩
  · exact Or.inl h
  · exact Or.inr ⟨b, n, D, e, hlt, ownsMap_same hown (hb.block b hlt), r⟩

theorem LabAt.len (h : LabAt H B w lv look nl) (ty : TypeId) : (Builtin.len_ #[23] ty #[lv]).run Try.prog w = .ok (.int .i64 nl) w := by
  rcases h with ⟨rfl, _, rfl⟩ | ⟨b, n, D, rfl, _, hown, rfl, _⟩
  · exact Maps.len_nil Try.underlying23 ty
  · exact hown.len Try.underlying23 ty

theorem LabAt.look2 (h : LabAt H B w lv look nl) {k : ByteArray} (hk : k.size ≤ maxLen) :
    (Instr.lookup 23 lv (.string k) true).run Try.prog w = .ok (.tuple #[.string ((look k).getD ByteArray.empty), .bool (look k).isSome]) w ∧ ((look k).getD ByteArray.empty).size ≤ maxLen := by
  have hkey := Go.WideMaps.keyOf_string_mk Try.underlying9 hk
  rcases h with ⟨rfl, hn, _⟩ | ⟨b, n, D, rfl, _, hown, _, h1, h2⟩
  · rw [hn k]
    exact ⟨Maps.look_nil true law9 Try.underlying23 (zero9 w) hkey, by simp [ByteArray.size_empty]⟩
  · obtain ⟨v, ps, hrun, hv⟩ := hown.look_ok law9 Try.underlying23 (zero9 w) (plainElem_string Try.underlying9 (by simp [ByteArray.size_empty])) hkey
    obtain ⟨s, rfl, hz, hsz⟩ := plainElem_string_inv Try.underlying9 hv
    have hz1 : D.atKey (klit k) (.lit (.string ByteArray.empty.data.toList)) = .lit (.string s.data.toList) := congrArg Prod.fst hz
    cases hl : look k with
    | none =>
      have hno := h2 k hl
      rw [Maps.atKey_of_not_has hno] at hz1
      have e : ByteArray.empty = s := bytes_ext (by injection hz1 with e; injection e)
      rw [show Maps.has D (.string k.data.toList) = false from hno, ← e] at hrun
      exact ⟨hrun, by simp [ByteArray.size_empty]⟩
    | some v =>
      rw [h1 k v hl] at hz1
      have e : v = s := bytes_ext (by injection hz1 with e; injection e)
      rw [show Maps.has D (.string k.data.toList) = true from Maps.has_true_of_atKey (h1 k v hl), ← e] at hrun
      exact ⟨hrun, by rw [e]; exact hsz⟩

theorem LabAt.look1 (h : LabAt H B w lv look nl) {k : ByteArray} (hk : k.size ≤ maxLen) :
    (Instr.lookup 23 lv (.string k) true).run Try.prog w = .ok (.tuple #[.string ((look k).getD ByteArray.empty), .bool (look k).isSome]) w := (h.look2 hk).1

theorem LabAt.lookAt (h : LabAt H B w lv look nl) : LookAt B w lv look := fun _ hx _ hk => (h.below hx).look1 hk

end

def adm1 (S : St) (look : ByteArray → Option ByteArray) (x : ByteArray) : Bool := adm S x ((look x).getD ByteArray.empty) (look x).isSome
def Good (S : St) (look : ByteArray → Option ByteArray) (nl : Nat) : Prop :=
  S.reqd.length ≤ nl ∧ (∀ x ∈ S.reqd, adm1 S look x = true) ∧ (S.reqd.length < S.keys.length → ∀ k v, look k = some v → k ∈ S.keys → adm S k v true = true)
def MPost (S : St) (look : ByteArray → Option ByteArray) (nl : Nat) (e : Ending) : Prop :=
  (e = .returned (.bool true) ∧ Good S look nl) ∨ (e = .returned (.bool false) ∧ ¬ Good S look nl)

/-- 'sel.byKey[key]', without 'ok'. -/
theorem SelP.look0 {w : World} {base sb mb : Nat} {S : St} {rv : Value} {D : DataW Unit} {tag : Nat → Option (ByteArray × Nat)} (h : SelP w base sb S mb rv D tag) {k : ByteArray} (hk : k ∈ S.keys) (hs : k.size ≤ maxLen) :
    ∃ rb : Nat, Ent w tag S k rb ∧ (Instr.lookup 25 (.map (some mb)) (.string k) false).run Try.prog w = .ok (.pointer (some ⟨rb, 0, none⟩)) w := by
  obtain ⟨rb, hat, he⟩ := h.ents k hk
  obtain ⟨v, ps, hrun, hv⟩ := h.own.lookup law9 Try.underlying25 (zero50 w) (zd := .nil) (zp := []) rfl (Go.WideMaps.keyOf_string_mk Try.underlying9 hs)
  rw [show D.atKey (.string k.data.toList) .nil = .lit (.int .i64 rb) from hat] at hv
  obtain rfl := ptrElem_inv hv
  exact ⟨rb, he, hrun⟩

theorem keyOf_string_inv {P : Program} {k : TypeId} (hk : P.underlying k = some .string) {key : Value} {kl : Lit} (h : keyOf P k key = some kl) : ∃ s : ByteArray, key = .string s ∧ kl = klit s ∧ s.size ≤ maxLen := by
  cases key <;> simp [keyOf, hk, mapKey] at h
  exact ⟨_, rfl, h.2.symm, h.1⟩

/-- THE RANGE's STEP, string keys, string elements. -/
theorem next_ss {H : Type} {P : Program} (w : World) {ops : Array Oper} {rest : List Oper} {o : Oper} {a : Act} {Q : Exit → Act → World → Prop}
    (hg : o.guard = none) (it : Operand) (hop : o.op = Op.next it false) (k e : TypeId) (K : Maps.Keyed P k) (hk : P.underlying k = some .string) (he : P.underlying e = some .string)
    (b r n : Nat) (D : DataW H) (left : Lit → Bool) (cnt : Nat) (hit : a.eval it = .pointer (some ⟨r, 0, none⟩)) (h : w.ranges P k (plainElem P e) b r n D left cnt)
    (hDone : (∀ kl, left kl = false) → wpList P ops Q rest (a.put o.dst (.tuple #[.bool false])) w)
    (hMore : ∀ (x c : ByteArray) (w' : World) (cnt' : Nat), x.size ≤ maxLen → c.size ≤ maxLen → left (klit x) = true → (∀ zd, D.atKey (klit x) zd = .lit (.string c.data.toList)) → w'.ranges P k (plainElem P e) b r n D (fun z => left z && !z.sameKey (klit x)) cnt' → cnt' < cnt →
      w.grownBy w' (some r) → (Instr.entry (.pointer (some ⟨r, 0, none⟩))).run P w' = .ok (.tuple #[.string x, .string c]) w' → wpList P ops Q rest (a.put o.dst (.tuple #[.bool true, .string x, .string c])) w') :
    wpList P ops Q (o :: rest) a w :=
  wpList_next_ranges w hg it hop k K (plainElem P e) Value.string Value.string (fun key kl hkey => by obtain ⟨x, rfl, _⟩ := keyOf_string_inv hk hkey; exact ⟨x, rfl⟩) (fun v y hv => by obtain ⟨c, rfl, _⟩ := plainElem_string_inv he hv; exact ⟨c, rfl⟩)
    b r n D left cnt hit h (fun _ hl => hDone hl) (fun x c kl y w' cnt' hkey hlk hv hat hrg hlt hgr _ hen => by
      obtain ⟨x', ex, rfl, hwx⟩ := keyOf_string_inv hk hkey
      cases ex
      obtain ⟨c', ec, rfl, hwc⟩ := plainElem_string_inv he hv
      cases ec
      exact hMore x c w' cnt' hwx hwc hlk hat hrg hlt hgr hen)

set_option maxRecDepth 8000 in
set_option maxHeartbeats 1000000 in
theorem matches_any {H : Type} (w : World) (B base sb mb : Nat) (S : St) (rv : Value) (Ds : DataW Unit) (tag : Nat → Option (ByteArray × Nat)) (lv : Value) (look : ByteArray → Option ByteArray) (nl : Nat)
    (hP : SelP w base sb S mb rv Ds tag) (hL : LabAt H B w lv look nl) (hB : B ≤ w.heap.size) (hsub : ∀ x ∈ S.reqd, x ∈ S.keys) (hks : ∀ x ∈ S.keys, x.size ≤ 140737488355328) (_hlen : S.keys.length ≤ 65536) (hlen2 : S.reqd.length ≤ 65536) (hnl : nl ≤ 4096) :
    Calls Try.prog 21 #[.agg #[.map (some mb), rv], lv] w fun e w' => MPost S look nl e ∧ Below w.heap.size w w' := by
  have hR := strs_of_row hP.row (by omega) (fun x hx => hks x (hsub x hx))
  obtain ⟨ao, cap, rfl, _, _, hrc⟩ := hR
  have hb1 : Below w.heap.size w (w.alloc (.cells #[.map (some mb), .slice ao S.reqd.length cap] 28)) := (Below.refl _ _).alloc (Nat.le_refl _) _
  have hP1 := hP.below hb1
  have hL1 := hL.below (hb1.mono hB)
  have hln := hL1.len
  have hown := hP1.own.len Try.underlying25
  rw [hP1.size] at hown
  have hblk : (w.alloc (.cells #[.map (some mb), .slice ao S.reqd.length cap] 28)).heap[w.heap.size]? = some (.cells #[.map (some mb), .slice ao S.reqd.length cap] 28) := (MapKept.heap_alloc w _).1
  have hrc1 : S.reqd = [] ∨ ∃ b off, ao = some ⟨b, off, none⟩ ∧ ∀ j x, S.reqd[j]? = some x → (w.alloc (.cells #[.map (some mb), .slice ao S.reqd.length cap] 28)).cell? ⟨b, off + j, none⟩ = some (.string x) := by
    rcases hrc with e | ⟨b, off, hlt, e, hc⟩
    · exact Or.inl e
    · exact Or.inr ⟨b, off, e, fun j x hj => (hb1.cell (p := ⟨b, _, none⟩) hlt).trans (hc j x hj)⟩
  clear hrc hP hL
  go_enter Try.func21, Try.ntmps21
  by_cases hfew : nl < S.reqd.length
  · go_wp2_with fail
    go_ret
    exact ⟨Or.inr ⟨rfl, fun hg => by have := hg.1; omega⟩, hb1⟩
  go_wp2_with fail
  generalize w.alloc (.cells #[.map (some mb), .slice ao S.reqd.length cap] 28) = w1 at hb1 hP1 hL1 hln hown hblk hrc1 ⊢
  have d0 : w1.cell? ⟨w.heap.size, 0, none⟩ = some (.map (some mb)) := by rw [cell_of hblk]; rfl
  have d1 : w1.cell? ⟨w.heap.size, 1, none⟩ = some (.slice ao S.reqd.length cap) := by rw [cell_of hblk]; rfl
  go_loop [22] (fun i => ∃ k : Nat, k ≤ S.reqd.length ∧ i = .int .i64 k ∧ ∀ x ∈ S.reqd.take k, adm1 S look x = true) (fun i => S.reqd.length - (intOf i).toNat)
  case atStart => exact ⟨0, Nat.zero_le _, rfl, fun x hx => by cases hx⟩
  case round =>
    obtain ⟨k, hk, rfl, hall⟩ := hrel
    have HA := hide hall
    clear hall
    by_cases hlt : k < S.reqd.length
    · obtain ⟨x, hx⟩ : ∃ x, S.reqd[k]? = some x := ⟨_, List.getElem?_eq_getElem hlt⟩
      rcases hrc1 with hnil | ⟨b, off, rfl, hc⟩
      · rw [hnil] at hlt; simp at hlt
      have hcx := hc k x hx
      have hxm := List.mem_of_getElem? hx
      have hxs := le_max (hks x (hsub x hxm))
      have hlk := hL1.look1 hxs
      obtain ⟨rb, hE, hlk2⟩ := hP1.look0 (hsub x hxm) hxs
      have HC : Hid (Calls Try.prog 25 #[.pointer (some ⟨rb, 0, none⟩), .string ((look x).getD ByteArray.empty), .bool (look x).isSome] w1 fun e w' => e = .returned (.bool (adm1 S look x)) ∧ w' = w1) := admits_any hE _ (hL1.look2 hxs).2 _
      have HX := hide hx
      clear hc hx hln hown d1
      go_wp2_with (go_at_call 25; refine HC.out.mono ?_; rintro e w' ⟨rfl, hw'⟩; obtain rfl := hw'.symm)
      · go_ret
        have hb : adm1 S look x = false := by simpa using ‹(!adm1 S look x) = true›
        exact ⟨Or.inr ⟨rfl, fun hg => by have := hg.2.1 x hxm; rw [hb] at this; cases this⟩, hb1⟩
      · have hb : adm1 S look x = true := by simpa using ‹(!adm1 S look x) = false›
        go_round
        case rel =>
          refine ⟨k + 1, by omega, by go_num, fun y hy => ?_⟩
          rw [List.take_add_one, HX.out] at hy
          simp at hy
          rcases hy with hy | rfl
          · exact HA.out y hy
          · exact hb
        case measure => simp [intOf]; omega
    · have HA2 : Hid (∀ x ∈ S.reqd, adm1 S look x = true) := fun x hx => HA.out x (by rw [List.take_of_length_le (by omega)]; exact hx)
      clear HA
      by_cases hmore : S.reqd.length < S.keys.length
      · have hmi : (S.reqd.length : Int) < S.keys.length := by omega
        rcases hL1 with ⟨rfl, hnone, rfl⟩ | ⟨b, n, D, rfl, hbB, hmap, hsz, hl1, hl2⟩
        · have hrg := run_range_nilMap (P := Try.prog) w1 23 9 9 Try.underlying23
          have hnx : ∀ ty, (Instr.next (.pointer (some ⟨w1.heap.size, 0, none⟩)) false ty).run Try.prog (w1.alloc (.mapIter none 0 #[] 0)) = .ok (.tuple #[.bool false]) (w1.alloc (.mapIter none 0 #[] 0)) := fun ty => run_next_nilMap w1 ty 0 0 #[]
          go_wp2_with fail
          refine wp_loop_rounds 1 ?_
          rw [rounds_succ]
          go_wp2_with fail
          go_ret
          refine ⟨Or.inl ⟨rfl, by omega, HA2.out, fun _ k v hk => by rw [hnone k] at hk; cases hk⟩, hb1.alloc hb1.size _⟩
        · go_wp2_with (first | (at_range; refine wpList_range_own _ rfl _ 23 rfl 9 9 law9 Try.underlying23 (plainElem Try.prog 9) b n D rfl hmap ?_; intro w0 hrg0 hg0 hs0))
          have hbr0 : Below w1.heap.size w1 w0 := (Below.refl _ _).grown hg0 (Nat.le_refl _) (fun k e => by cases e)
          go_loopw [9] (fun _ wr => ∃ left cnt, wr.ranges Try.prog 9 (plainElem Try.prog 9) b w1.heap.size n D left cnt ∧ Below w1.heap.size w1 wr ∧ ∀ k v, look k = some v → left (klit k) = false → k ∈ S.keys → adm S k v true = true) (fun _ wr => wr.rangeLeft b w1.heap.size)
          case atStart =>
            refine ⟨_, _, hrg0, hbr0, fun k v hk hl _ => ?_⟩
            rw [Maps.has_true_of_atKey (hl1 k v hk)] at hl
            cases hl
          case round =>
            obtain ⟨left, cnt, hrg, hbr, hdone⟩ := hrel
            have HD := hide hdone
            clear hdone hrg0 hg0 hs0 hbr0
            have hcnt : Hid (∀ (w2 : World) (left2 : Lit → Bool) (cnt2 : Nat), w2.ranges Try.prog 9 (plainElem Try.prog 9) b w1.heap.size n D left2 cnt2 → cnt2 < cnt → w2.rangeLeft b w1.heap.size < wr.rangeLeft b w1.heap.size) := fun w2 left2 cnt2 h2 hl => by rw [h2.left_eq, hrg.left_eq]; exact hl
            go_wp2_with (first | (at_next; refine next_ss _ rfl _ rfl 9 9 law9 Try.underlying9 Try.underlying9 b w1.heap.size n D left cnt rfl hrg ?_ ?_))
            · intro hl0
              have HL := hide hl0
              clear hl0
              go_wp2_with fail
              go_ret
              exact ⟨Or.inl ⟨rfl, by omega, HA2.out, fun _ k v hk hkk => HD.out k v hk (HL.out _) hkk⟩, hb1.trans (hbr.mono hb1.size)⟩
            · intro x c w2 cnt2 hwx hwc hlx hatx hrg2 hlt2 hgr2 hen
              have hbr2 : Below w1.heap.size w1 w2 := hbr.grown hgr2 hbr.size (fun k e => by cases e; exact Nat.le_refl _)
              have hlook : Hid (look x = some c) := by
                cases hl : look x with
                | none => have := hl2 x hl; rw [Maps.has_true_of_atKey hatx] at this; cases this
                | some v =>
                  have e := (hl1 x v hl .nil).symm.trans (hatx .nil)
                  have : v = c := bytes_ext (by injection e with e; injection e)
                  rw [this]; rfl
              have hnext : Hid ((x ∈ S.keys → adm S x c true = true) → ∀ k v, look k = some v → (left (klit k) && !(klit k).sameKey (klit x)) = false → k ∈ S.keys → adm S k v true = true) := by
                intro hx k v hk hl hkk
                cases hlk : left (klit k)
                · exact HD.out k v hk hlk hkk
                · rw [hlk] at hl
                  have hs : (klit k).sameKey (klit x) = true := by simpa using hl
                  have e := klit_inj (WideAt.sameKey_eq hs)
                  subst e
                  rw [hlook.out] at hk
                  injection hk with hk
                  rw [← hk]; exact hx hkk
              have hP2 := hP1.below hbr2
              have hbl : w.heap.size < w1.heap.size := lt_of_heap hblk
              have e0 : w2.cell? ⟨w.heap.size, 0, none⟩ = some (.map (some mb)) := (hbr2.cell (p := ⟨w.heap.size, 0, none⟩) hbl).trans d0
              obtain ⟨pv, nb, hlk, hcase⟩ := hP2.look_any hwx
              have HR := hide hrg2
              have hbe := hb1.trans (hbr2.mono hb1.size)
              clear hatx hlx hgr2 hrg hln hown d0 d1 hl1 hl2 hrc1 hmap hrg2
              rcases hcase with ⟨rfl, hin, rb, rfl, hatk⟩ | ⟨rfl, rfl, hin⟩
              · have HC : Hid (Calls Try.prog 25 #[.pointer (some ⟨rb, 0, none⟩), .string c, .bool true] w2 fun e w' => e = .returned (.bool (adm S x c true)) ∧ w' = w2) := admits_any (hP2.entAt hin hatk) c hwc true
                clear hatk
                go_wp2_with (go_at_call 25; refine HC.out.mono ?_; rintro e w' ⟨rfl, hw'⟩; obtain rfl := hw'.symm)
                · go_ret
                  have hb : adm S x c true = false := by simpa using ‹(!adm S x c true) = true›
                  exact ⟨Or.inr ⟨rfl, fun hg => by have := hg.2.2 hmore x c hlook.out hin; rw [hb] at this; cases this⟩, hbe⟩
                · have hb : adm S x c true = true := by simpa using ‹(!adm S x c true) = false›
                  go_roundw
                  case rel => exact ⟨_, _, HR.out, hbr2, hnext.out (fun _ => hb)⟩
                  case measure => exact hcnt.out _ _ _ HR.out hlt2
              · go_wp2_with fail
                go_roundw
                case rel => exact ⟨_, _, HR.out, hbr2, hnext.out (fun h => absurd h hin)⟩
                case measure => exact hcnt.out _ _ _ HR.out hlt2
      · have hmi : ¬ (S.reqd.length : Int) < S.keys.length := by omega
        go_wp2_with fail
        go_ret
        exact ⟨Or.inl ⟨rfl, by omega, HA2.out, fun h => absurd h hmore⟩, hb1⟩

set_option maxHeartbeats 400000 in
theorem zzmatches_any {H : Type} (w : World) (B base sb mb : Nat) (S : St) (rv : Value) (Ds : DataW Unit) (tag : Nat → Option (ByteArray × Nat)) (lv : Value) (look : ByteArray → Option ByteArray) (nl : Nat)
    (hP : SelP w base sb S mb rv Ds tag) (hL : LabAt H B w lv look nl) (hB : B ≤ w.heap.size) (hsub : ∀ x ∈ S.reqd, x ∈ S.keys) (hks : ∀ x ∈ S.keys, x.size ≤ 140737488355328) (hlen : S.keys.length ≤ 65536) (hlen2 : S.reqd.length ≤ 65536) (hnl : nl ≤ 4096) :
    Calls Try.prog 10 #[.agg #[.map (some mb), rv], lv] w fun e w' => MPost S look nl e ∧ Below w.heap.size w w' := by
  have hb1 : Below w.heap.size w (w.alloc (.cells #[.map (some mb), rv] 28)) := (Below.refl _ _).alloc (Nat.le_refl _) _
  have hc := matches_any (w.alloc (.cells #[.map (some mb), rv] 28)) B base sb mb S rv Ds tag lv look nl (hP.below hb1) (hL.below (hb1.mono hB)) (Nat.le_trans hB hb1.size) hsub hks hlen hlen2 hnl
  obtain ⟨ga, gl, gc, rfl⟩ : ∃ a l c, rv = .slice a l c := by
    rcases hP.row.2 with ⟨e, _⟩ | ⟨g, cap', cur, e, _⟩
    · exact ⟨_, _, _, e⟩
    · exact ⟨_, _, _, e⟩
  go_enter Try.func10, Try.ntmps10
  go_wp2_with fail
  refine hc.mono ?_
  rintro e w' ⟨hp, hb⟩
  have hbe := hb1.trans (hb.mono hb1.size)
  rcases hp with ⟨rfl, hg⟩ | ⟨rfl, hg⟩
  · go_wp2_with fail
    go_ret
    exact ⟨Or.inl ⟨rfl, hg⟩, hbe⟩
  · go_wp2_with fail
    go_ret
    exact ⟨Or.inr ⟨rfl, hg⟩, hbe⟩

end Go.Proofs.Qxb6617295a
