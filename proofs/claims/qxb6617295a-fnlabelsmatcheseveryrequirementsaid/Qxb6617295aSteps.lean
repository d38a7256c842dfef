/-
  THE STEPS OF '(*Labels).add' ON A SELECTOR's MEMORY. No walk in this text.
-/
import Derived.Test.Qxb6617295aMem
namespace Go.Proofs.Qxb6617295a
open Go.RowKit

theorem heap_setCell_same {w : World} {b i : Nat} {c : Array Value} {t : TypeId} {fr : Nat × Nat} (h : w.heap[b]? = some (.cells c t fr)) (u : Value) :
    (w.setCell ⟨b, i, none⟩ u).heap[b]? = some (.cells (c.setIfInBounds i u) t fr) := by
  simp only [World.setCell, Array.getElem?_modify]
  rw [h]
  simp
theorem cell_of {w : World} {b i : Nat} {c : Array Value} {t : TypeId} {fr : Nat × Nat} (h : w.heap[b]? = some (.cells c t fr)) : w.cell? ⟨b, i, none⟩ = c[i]? := by simp [World.cell?, h]
theorem frozen_of {w : World} {b i : Nat} {c : Array Value} {t : TypeId} (h : w.heap[b]? = some (.cells c t)) : w.frozen? ⟨b, i, none⟩ = false := by simp [World.frozen?, h]
theorem size_setCell (w : World) (a : Addr) (u : Value) : (w.setCell a u).heap.size = w.heap.size := by simp [World.setCell]
theorem has_of_at {D : DataW Unit} {k : Lit} {b : Nat} (h : D.atKey k .nil = .lit (.int .i64 b)) : Maps.has D k = true := by
  cases hh : Maps.has D k
  · rw [Maps.atKey_of_not_has hh] at h; cases h
  · rfl

/-- A block's tag laid anew. -/
def retag (tag : Nat → Option (ByteArray × Nat)) (b : Nat) (p : ByteArray × Nat) : Nat → Option (ByteArray × Nat) := fun x => if x = b then some p else tag x
theorem retag_same (tag : Nat → Option (ByteArray × Nat)) (b : Nat) (p : ByteArray × Nat) : retag tag b p b = some p := if_pos rfl
theorem retag_other (tag : Nat → Option (ByteArray × Nat)) {b x : Nat} (p : ByteArray × Nat) (h : x ≠ b) : retag tag b p x = tag x := if_neg h

variable {w w' : World} {base sb mb rb : Nat} {S S' : St} {rv : Value} {D : DataW Unit} {tag tag' : Nat → Option (ByteArray × Nat)} {k : ByteArray}

/-- ONE KEY's REQUIREMENT TURNS. -/
theorem SelP.ent (h : SelP w base sb S mb rv D tag) (hat : D.atKey (klit k) .nil = .lit (.int .i64 rb)) 
    (hbl : ∀ x, x < w.heap.size → (∀ i, tag x ≠ some (k, i)) → w'.heap[x]? = w.heap[x]?) (ht : ∀ x, x < w.heap.size → tag' x = tag x)
    (htn : ∀ x p, tag' x = some p → base ≤ x ∧ x < w'.heap.size)
    (e1 : S'.keys = S.keys) (e2 : S'.reqd = S.reqd) (e3 : ∀ x, x ≠ k → S'.pres x = S.pres x ∧ S'.absn x = S.absn x ∧ S'.inn x = S.inn x ∧ S'.nin x = S.nin x) (e4 : S.nmax ≤ S'.nmax)
    (hkk : k ∈ S.keys) (he : Ent w' tag' S' k rb) : SelP w' base sb S' mb rv D tag' where
  blk := (hbl sb (lt_of_heap h.blk) (fun i => by rw [h.tsb]; simp)).trans h.blk
  bsb := h.bsb
  bmb := h.bmb
  tsb := by rw [ht sb (lt_of_heap h.blk)]; exact h.tsb
  tmb := by rw [ht mb h.own.lt]; exact h.tmb
  own := by rw [e1]; exact ownsMap_same h.own (hbl mb h.own.lt (fun i => by rw [h.tmb]; simp))
  size := by rw [e1]; exact h.size
  row := by rw [e2]; exact ownsRow_same h.row (fun g hg => hbl g (h.row.lt g hg).2 (fun i => by rw [h.trow g hg]; simp))
  trow := fun g hg => by rw [ht g (h.row.lt g hg).2]; exact h.trow g hg
  tags := htn
  ents := fun x hx => by
    rw [e1] at hx
    by_cases hxk : x = k
    · subst hxk; exact ⟨rb, hat, he⟩
    · obtain ⟨rb', hat', he'⟩ := h.ents x hx
      refine ⟨rb', hat', he'.keep (fun y i hy => hbl y (h.tags y _ hy).2 (fun j => by rw [hy]; simp [hxk])) (fun y i hy => by rw [ht y (h.tags y _ hy).2]; exact hy) (e3 x hxk).1 (e3 x hxk).2.1 (e3 x hxk).2.2.1 (e3 x hxk).2.2.2 e4⟩
  nots := fun x hx => by
    rw [e1] at hx
    have hxk : x ≠ k := fun e => hx (e ▸ hkk)
    obtain ⟨a, b, c, d, e⟩ := h.nots x hx
    obtain ⟨f1, f2, f3, f4⟩ := e3 x hxk
    exact ⟨a, by rw [f1]; exact b, by rw [f2]; exact c, by rw [f3]; exact d, by rw [f4]; exact e⟩

/-- The requirement of a key that is there. -/
theorem SelP.entAt (h : SelP w base sb S mb rv D tag) (hk : k ∈ S.keys) (hat : D.atKey (klit k) .nil = .lit (.int .i64 rb)) : Ent w tag S k rb := by
  obtain ⟨rb', hat', he⟩ := h.ents k hk
  rw [hat] at hat'
  injection hat' with e; injection e with e1 e2
  have : rb = rb' := Int.ofNat.inj e2
  rw [this]; exact he

def St.setPres (S : St) (k : ByteArray) : St := { S with pres := upd S.pres k true }
def St.setAbs (S : St) (k : ByteArray) : St := { S with absn := upd S.absn k true }
def St.setIn (S : St) (k : ByteArray) (f : ByteArray → Bool) (n : Nat) : St := { S with inn := upd S.inn k (some f), nmax := S.nmax + n }
def St.setNin (S : St) (k : ByteArray) (f : ByteArray → Bool) (n : Nat) : St := { S with nin := upd S.nin k (some f), nmax := S.nmax + n }
def St.req (S : St) (k : ByteArray) : St := { S with reqd := S.reqd ++ [k] }
def St.mention (S : St) (k : ByteArray) : St := { S with keys := S.keys ++ [k] }
def St.room (S : St) (n : Nat) : St := { S with nmax := S.nmax + n }

theorem SelP.room (h : SelP w base sb S mb rv D tag) (n : Nat) : SelP w base sb (S.room n) mb rv D tag where
  blk := h.blk
  bsb := h.bsb
  bmb := h.bmb
  tsb := h.tsb
  tmb := h.tmb
  own := h.own
  size := h.size
  row := h.row
  trow := h.trow
  tags := h.tags
  ents := fun x hx => by
    obtain ⟨rb, hat, he⟩ := h.ents x hx
    exact ⟨rb, hat, he.keep (fun _ _ _ => rfl) (fun _ _ hx => hx) rfl rfl rfl rfl (Nat.le_add_right _ _)⟩
  nots := h.nots

theorem SelP.setPres (h : SelP w base sb S mb rv D tag) (hk : k ∈ S.keys) (hat : D.atKey (klit k) .nil = .lit (.int .i64 rb)) :
    SelP (w.setCell ⟨rb, 0, none⟩ (.bool true)) base sb (S.setPres k) mb rv D tag := by
  obtain ⟨im, nm, hh, t0, b1, b2, t1, t2⟩ := h.entAt hk hat
  have hne : ∀ x, (∀ i, tag x ≠ some (k, i)) → (w.setCell ⟨rb, 0, none⟩ (.bool true)).heap[x]? = w.heap[x]? := fun x hx => Below.heap_setCell _ _ _ _ (fun e => hx 0 (by rw [e]; exact t0))
  refine h.ent hat (fun x _ hx => hne x hx) (fun _ _ => rfl) (fun x p hp => by rw [size_setCell]; exact h.tags x p hp) rfl rfl
    (fun x hx => ⟨upd_other _ _ _ hx, rfl, rfl, rfl⟩) (Nat.le_refl _) hk ?_
  refine ⟨im, nm, ?_, t0, b1.keep (Nat.le_refl _) (fun b e => Below.heap_setCell _ _ _ _ (fun e' => ?_)), b2.keep (Nat.le_refl _) (fun b e => Below.heap_setCell _ _ _ _ (fun e' => ?_)), t1, t2⟩
  · rw [heap_setCell_same hh]; simp [St.setPres, upd_same]
  · have := t1 b e; rw [e'] at this; rw [t0] at this; simp at this
  · have := t2 b e; rw [e'] at this; rw [t0] at this; simp at this

theorem SelP.setAbs (h : SelP w base sb S mb rv D tag) (hk : k ∈ S.keys) (hat : D.atKey (klit k) .nil = .lit (.int .i64 rb)) :
    SelP (w.setCell ⟨rb, 1, none⟩ (.bool true)) base sb (S.setAbs k) mb rv D tag := by
  obtain ⟨im, nm, hh, t0, b1, b2, t1, t2⟩ := h.entAt hk hat
  have hne : ∀ x, (∀ i, tag x ≠ some (k, i)) → (w.setCell ⟨rb, 1, none⟩ (.bool true)).heap[x]? = w.heap[x]? := fun x hx => Below.heap_setCell _ _ _ _ (fun e => hx 0 (by rw [e]; exact t0))
  refine h.ent hat (fun x _ hx => hne x hx) (fun _ _ => rfl) (fun x p hp => by rw [size_setCell]; exact h.tags x p hp) rfl rfl
    (fun x hx => ⟨rfl, upd_other _ _ _ hx, rfl, rfl⟩) (Nat.le_refl _) hk ?_
  refine ⟨im, nm, ?_, t0, b1.keep (Nat.le_refl _) (fun b e => Below.heap_setCell _ _ _ _ (fun e' => ?_)), b2.keep (Nat.le_refl _) (fun b e => Below.heap_setCell _ _ _ _ (fun e' => ?_)), t1, t2⟩
  · rw [heap_setCell_same hh]; simp [St.setAbs, upd_same]
  · have := t1 b e; rw [e'] at this; rw [t0] at this; simp at this
  · have := t2 b e; rw [e'] at this; rw [t0] at this; simp at this

/-- 'req.in = in', 'in' a map that the call has filled. -/
theorem SelP.setIn {wr : World} {ib n : Nat} {Di : DataW Unit} {f : ByteArray → Bool} (h : SelP w base sb S mb rv D tag) (hk : k ∈ S.keys) (hat : D.atKey (klit k) .nil = .lit (.int .i64 rb))
    (hb : Below w.heap.size w wr) (hi : w.heap.size ≤ ib) (hbase : base ≤ w.heap.size) (hown : wr.ownsMap Try.prog 9 (plainElem Try.prog 4) ib n Di) (hf : ∀ v, Di.atKey (klit v) (.lit (.bool false)) = .lit (.bool (f v))) :
    SelP (wr.setCell ⟨rb, 2, none⟩ (.map (some ib))) base sb (S.setIn k f n) mb rv D (retag tag ib (k, 1)) := by
  obtain ⟨im, nm, hh, t0, b1, b2, t1, t2⟩ := h.entAt hk hat
  have hlt := h.tags rb _ t0
  have hhr : wr.heap[rb]? = some (.cells #[.bool (S.pres k), .bool (S.absn k), .map im, .map nm] 56) := (hb.block rb hlt.2).trans hh
  have hbl : ∀ x, x < w.heap.size → x ≠ rb → (wr.setCell ⟨rb, 2, none⟩ (.map (some ib))).heap[x]? = w.heap[x]? := fun x hx hxr => (Below.heap_setCell _ _ _ _ hxr).trans (hb.block x hx)
  refine h.ent hat (fun x hx hxt => hbl x hx (fun e => hxt 0 (by rw [e]; exact t0))) (fun x hx => retag_other _ _ (by omega)) (fun x p hp => ?_) rfl rfl
    (fun x hx => ⟨rfl, rfl, upd_other _ _ _ hx, rfl⟩) (Nat.le_add_right _ _) hk ?_
  · rw [size_setCell]
    by_cases hx : x = ib
    · subst hx; exact ⟨Nat.le_trans hbase hi, hown.lt⟩
    · rw [retag_other _ _ hx] at hp; exact ⟨(h.tags x p hp).1, Nat.lt_of_lt_of_le (h.tags x p hp).2 hb.size⟩
  · refine ⟨some ib, nm, ?_, ?_, ?_, ?_, fun b e => by cases e; exact retag_same _ _ _, fun b e => ?_⟩
    · rw [heap_setCell_same hhr]; simp [St.setIn]
    · rw [retag_other _ _ (by omega)]; exact t0
    · simp only [St.setIn, upd_same]
      exact ⟨Di, ownsMap_same (hown.mono (Nat.le_add_left _ _)) (Below.heap_setCell _ _ _ _ (by show ib ≠ rb; omega)), hf⟩
    · refine b2.keep (Nat.le_add_right _ _) (fun b e => hbl b (h.tags b _ (t2 b e)).2 (fun e' => ?_))
      have := t2 b e; rw [e', t0] at this; simp at this
    · have := t2 b e
      rw [retag_other _ _ (by have := (h.tags b _ this).2; omega)]; exact this

/-- 'req.notIn = make(..)', where it was nil. -/
theorem SelP.newNin {wr : World} {nb : Nat} (h : SelP w base sb S mb rv D tag) (hk : k ∈ S.keys) (hat : D.atKey (klit k) .nil = .lit (.int .i64 rb))
    (hb : Below w.heap.size w wr) (hi : w.heap.size ≤ nb) (hbase : base ≤ w.heap.size) (hown : wr.ownsMap Try.prog 9 (plainElem Try.prog 4) nb 0 (.map [] : DataW Unit)) :
    SelP (wr.setCell ⟨rb, 3, none⟩ (.map (some nb))) base sb (S.setNin k (fun _ => false) 0) mb rv D (retag tag nb (k, 2)) := by
  obtain ⟨im, nm, hh, t0, b1, b2, t1, t2⟩ := h.entAt hk hat
  have hlt := h.tags rb _ t0
  have hhr : wr.heap[rb]? = some (.cells #[.bool (S.pres k), .bool (S.absn k), .map im, .map nm] 56) := (hb.block rb hlt.2).trans hh
  have hbl : ∀ x, x < w.heap.size → x ≠ rb → (wr.setCell ⟨rb, 3, none⟩ (.map (some nb))).heap[x]? = w.heap[x]? := fun x hx hxr => (Below.heap_setCell _ _ _ _ hxr).trans (hb.block x hx)
  refine h.ent hat (fun x hx hxt => hbl x hx (fun e => hxt 0 (by rw [e]; exact t0))) (fun x hx => retag_other _ _ (by omega)) (fun x p hp => ?_) rfl rfl
    (fun x hx => ⟨rfl, rfl, rfl, upd_other _ _ _ hx⟩) (Nat.le_add_right _ _) hk ?_
  · rw [size_setCell]
    by_cases hx : x = nb
    · subst hx; exact ⟨Nat.le_trans hbase hi, hown.lt⟩
    · rw [retag_other _ _ hx] at hp; exact ⟨(h.tags x p hp).1, Nat.lt_of_lt_of_le (h.tags x p hp).2 hb.size⟩
  · refine ⟨im, some nb, ?_, ?_, ?_, ?_, fun b e => ?_, fun b e => by cases e; exact retag_same _ _ _⟩
    · rw [heap_setCell_same hhr]; simp [St.setNin]
    · rw [retag_other _ _ (by omega)]; exact t0
    · refine b1.keep (Nat.le_add_right _ _) (fun b e => hbl b (h.tags b _ (t1 b e)).2 (fun e' => ?_))
      have := t1 b e; rw [e', t0] at this; simp at this
    · simp only [St.setNin, upd_same]
      exact ⟨_, ownsMap_same (hown.mono (Nat.zero_le _)) (Below.heap_setCell _ _ _ _ (by show nb ≠ rb; omega)), fun v => rfl⟩
    · have := t1 b e
      rw [retag_other _ _ (by have := (h.tags b _ this).2; omega)]; exact this

/-- 'req.notIn[v] = true'. -/
theorem SelP.putNin {nb : Nat} {f : ByteArray → Bool} {im : Option Nat} {Dn : DataW Unit} {v : ByteArray} (h : SelP w base sb S mb rv D tag) (hk : k ∈ S.keys) (hat : D.atKey (klit k) .nil = .lit (.int .i64 rb))
    (hh : w.heap[rb]? = some (.cells #[.bool (S.pres k), .bool (S.absn k), .map im, .map (some nb)] 56))
    (hf : ∀ v, Dn.atKey (klit v) (.lit (.bool false)) = .lit (.bool (f v))) (hm : Maps.IsMap Dn)
    (hown : w'.ownsMap Try.prog 9 (plainElem Try.prog 4) nb (S.nmax + 1) (Dn.put (klit v) (.lit (.bool true)))) (hg : w.grownBy w' (some nb)) :
    SelP w' base sb (S.setNin k (fun x => f x || (v.toList == x.toList)) 1) mb rv D tag := by
  obtain ⟨im', nm, hh', t0, b1, b2, t1, t2⟩ := h.entAt hk hat
  rw [hh] at hh'
  injection hh' with e; injection e with e _ _; injection e with e; simp at e
  obtain ⟨rfl, rfl⟩ := e
  have tnb := t2 nb rfl
  have hbl : ∀ x, x < w.heap.size → x ≠ nb → w'.heap[x]? = w.heap[x]? := fun x hx hxn => hg.block x hx (by simpa using hxn)
  refine h.ent hat (fun x hx hxt => hbl x hx (fun e => hxt 2 (by rw [e]; exact tnb))) (fun x hx => rfl) (fun x p hp => ⟨(h.tags x p hp).1, Nat.lt_of_lt_of_le (h.tags x p hp).2 hg.size⟩) rfl rfl
    (fun x hx => ⟨rfl, rfl, rfl, upd_other _ _ _ hx⟩) (Nat.le_add_right _ _) hk ?_
  refine ⟨im, some nb, ?_, t0, ?_, ?_, t1, t2⟩
  · rw [hbl rb (h.tags rb _ t0).2 (fun e => by rw [e, tnb] at t0; simp at t0)]; exact hh
  · refine b1.keep (Nat.le_add_right _ _) (fun b e => hbl b (h.tags b _ (t1 b e)).2 (fun e' => ?_))
    have := t1 b e; rw [e', tnb] at this; simp at this
  · simp only [St.setNin, upd_same]
    refine ⟨_, hown, fun x => ?_⟩
    by_cases hx : x = v
    · subst hx; rw [Maps.atKey_put_same hm (klit_key _)]; simp
    · have hv : (v.toList == x.toList) = false := by
        cases hb : (v.toList == x.toList)
        · rfl
        · exact absurd (toList_iff.1 (eq_of_beq hb)).symm hx
      rw [Maps.atKey_put_other (fun e => hx (klit_inj e)), hf]
      show _ = DataW.lit (.bool (f x || (v.toList == x.toList)))
      rw [hv, Bool.or_false]

/-- 'sel.byKey[key] = &labelRequirement{}', where the key was not there. -/
theorem SelP.new (h : SelP w base sb S mb rv D tag) (hk : k ∉ S.keys) (hbase : base ≤ w.heap.size)
    (hown : w'.ownsMap Try.prog 9 ptrElem mb (S.keys.length + 1) (D.put (klit k) (.lit (.int .i64 w.heap.size))))
    (hg : (w.alloc (.cells #[.bool false, .bool false, .map none, .map none] 56)).grownBy w' (some mb)) :
    SelP w' base sb (S.mention k) mb rv (D.put (klit k) (.lit (.int .i64 w.heap.size))) (retag tag w.heap.size (k, 0)) := by
  have hbl : ∀ x, x < w.heap.size → x ≠ mb → w'.heap[x]? = w.heap[x]? := fun x hx hxm => (hg.block x (by simp; omega) (by simpa using hxm)).trans (Below.heap_alloc _ _ _ hx)
  have hsz : w.heap.size + 1 ≤ w'.heap.size := by have := hg.size; simpa using this
  have hmbl := h.own.lt
  have hnew : w'.heap[w.heap.size]? = some (.cells #[.bool false, .bool false, .map none, .map none] 56) :=
    (hg.block w.heap.size (by simp) (by simp; omega)).trans (MapKept.heap_alloc w _).1
  have hN := h.nots k hk
  have hsbl := lt_of_heap h.blk
  refine ⟨(hbl sb hsbl (fun e => ?_)).trans h.blk, h.bsb, h.bmb, ?_, ?_, ?_, ?_, ?_, ?_, ?_, ?_, ?_⟩
  · obtain ⟨es, clock, hm, _⟩ := h.own
    have := h.blk; rw [e, hm] at this; cases this
  · rw [retag_other _ _ (by omega)]; exact h.tsb
  · rw [retag_other _ _ (by omega)]; exact h.tmb
  · simpa [St.mention] using hown
  · rw [Maps.size_put (h.own.tidy law9), hN.1, h.size]; simp [St.mention]
  · refine ownsRow_same h.row (fun g hg' => hbl g (h.row.lt g hg').2 (fun e => ?_))
    rcases h.row.2 with ⟨rfl, _⟩ | ⟨g', cap, cur, rfl, _, hgg, _⟩
    · simp [Value.ownBlock] at hg'
    · simp [Value.ownBlock] at hg'
      obtain ⟨es, clock, hm, _⟩ := h.own
      rw [hg', e, hm] at hgg; cases hgg
  · intro g hg'
    have := (h.row.lt g hg').2
    rw [retag_other _ _ (by omega)]; exact h.trow g hg'
  · intro x p hp
    by_cases hx : x = w.heap.size
    · subst hx; exact ⟨hbase, by omega⟩
    · have hp' : tag x = some p := by rw [retag_other _ _ hx] at hp; exact hp
      have := h.tags x p hp'
      exact ⟨this.1, by omega⟩
  · intro x hx
    by_cases hxk : x = k
    · subst hxk
      refine ⟨w.heap.size, Maps.atKey_put_same h.own.isMap (klit_key _) _ _, none, none, ?_, retag_same _ _ _, ?_, ?_, fun b e => by simp at e, fun b e => by simp at e⟩
      · simp only [St.mention, hN.2.1, hN.2.2.1]; exact hnew
      · simp only [St.mention, hN.2.2.2.1]; trivial
      · simp only [St.mention, hN.2.2.2.2]; trivial
    · have hx' : x ∈ S.keys := by simpa [St.mention, hxk] using hx
      obtain ⟨rb', hat', he'⟩ := h.ents x hx'
      refine ⟨rb', by rw [Maps.atKey_put_other (fun e => hxk (klit_inj e))]; exact hat', he'.keep (fun y i hy => hbl y (h.tags y _ hy).2 (fun e => ?_)) (fun y i hy => ?_) rfl rfl rfl rfl (Nat.le_refl _)⟩
      · rw [e, h.tmb] at hy; cases hy
      · have := (h.tags y _ hy).2
        rw [retag_other _ _ (by omega)]; exact hy
  · intro x hx
    have hx' : x ∉ S.keys ∧ x ≠ k := by simpa [St.mention] using hx
    obtain ⟨a, r⟩ := h.nots x hx'.1
    exact ⟨by rw [Maps.has_put_other (fun e => hx'.2 (klit_inj e))]; exact a, r⟩

/-- Behind the append the selector's own block is as it was. -/
theorem SelP.req_blk {wa w1 : World} (h : SelP w base sb S mb rv D tag) (hwa : Below w.heap.size w wa) (hg : wa.grownBy w1 rv.ownBlock) : w1.heap[sb]? = some (.cells #[.map (some mb), rv] 28) := by
  have hsbl := lt_of_heap h.blk
  refine (hg.block sb (Nat.lt_of_lt_of_le hsbl hwa.size) (fun e => ?_)).trans ((hwa.block sb hsbl).trans h.blk)
  rcases h.row.2 with ⟨rfl, _⟩ | ⟨g', cap, cur, rfl, _, hgg, _⟩
  · simp [Value.ownBlock] at e
  · simp [Value.ownBlock] at e
    rw [← e, h.blk] at hgg; simp at hgg

/-- 'sel.required = append(sel.required, key)'. -/
theorem SelP.req {wa w1 : World} {v' : Value} (h : SelP w base sb S mb rv D tag) (hwa : Below w.heap.size w wa)
    (hrow : w1.ownsRow base 9 1 v' (S.reqd.length + 1) (S.reqd.map Value.string ++ [.string k])) (hg : wa.grownBy w1 rv.ownBlock) (hat : v'.ownBlock = rv.ownBlock ∨ v'.ownBlock = some wa.heap.size) :
    SelP (w1.setCell ⟨sb, 1, none⟩ v') base sb (S.req k) mb v' D tag := by
  have hsz : w.heap.size ≤ w1.heap.size := Nat.le_trans hwa.size hg.size
  have hsbl := lt_of_heap h.blk
  have hmbl := h.own.lt
  -- the old row is neither the selector, nor a map, nor tagged
  have hrn : ∀ x, rv.ownBlock = some x → tag x = none ∧ x ≠ sb ∧ x ≠ mb := by
    intro x hx
    refine ⟨h.trow x hx, fun e => ?_, fun e => ?_⟩
    · rcases h.row.2 with ⟨rfl, _⟩ | ⟨g', cap, cur, rfl, _, hgg, _⟩
      · simp [Value.ownBlock] at hx
      · simp [Value.ownBlock] at hx
        rw [hx, e, h.blk] at hgg; simp at hgg
    · rcases h.row.2 with ⟨rfl, _⟩ | ⟨g', cap, cur, rfl, _, hgg, _⟩
      · simp [Value.ownBlock] at hx
      · simp [Value.ownBlock] at hx
        obtain ⟨es, clock, hm, _⟩ := h.own
        rw [hx, e, hm] at hgg; cases hgg
  have hb1 : ∀ x, x < w.heap.size → rv.ownBlock ≠ some x → w1.heap[x]? = w.heap[x]? := fun x hx hne =>
    (hg.block x (Nat.lt_of_lt_of_le hx hwa.size) (fun e => hne e.symm)).trans (hwa.block x hx)
  have hbl : ∀ x, x < w.heap.size → rv.ownBlock ≠ some x → x ≠ sb → (w1.setCell ⟨sb, 1, none⟩ v').heap[x]? = w.heap[x]? := fun x hx hne hxs =>
    (Below.heap_setCell _ _ _ _ hxs).trans (hb1 x hx hne)
  have hblk1 : w1.heap[sb]? = some (.cells #[.map (some mb), rv] 28) := (hb1 sb hsbl (fun e => (hrn sb e).2.1 rfl)).trans h.blk
  have hvn : ∀ g, v'.ownBlock = some g → tag g = none ∧ g ≠ sb := by
    intro g hg'
    rcases hat with e | e
    · rw [e] at hg'; exact ⟨(hrn g hg').1, (hrn g hg').2.1⟩
    · rw [e] at hg'; injection hg' with hg'
      have := hwa.size
      refine ⟨?_, by omega⟩
      cases ht : tag g with
      | none => rfl
      | some p => have := (h.tags g p ht).2; omega
  refine ⟨?_, h.bsb, h.bmb, h.tsb, h.tmb, ?_, h.size, ?_, fun g hg' => (hvn g hg').1, fun x p hp => ⟨(h.tags x p hp).1, by rw [size_setCell]; exact Nat.lt_of_lt_of_le (h.tags x p hp).2 hsz⟩, ?_, h.nots⟩
  · rw [heap_setCell_same hblk1]; simp
  · refine ownsMap_same h.own (hbl mb hmbl (fun e => (hrn mb e).2.2 rfl) (fun e => ?_))
    obtain ⟨es, clock, hm, _⟩ := h.own
    rw [e, h.blk] at hm; cases hm
  · have : w1.ownsRow base 9 1 v' (S.req k).reqd.length ((S.req k).reqd.map Value.string) := by simpa [St.req] using hrow
    exact ownsRow_same this (fun g hg' => Below.heap_setCell _ _ _ _ (hvn g hg').2)
  · intro x hx
    obtain ⟨rb', hat', he'⟩ := h.ents x hx
    refine ⟨rb', hat', he'.keep (fun y i hy => hbl y (h.tags y _ hy).2 (fun e => ?_) (fun e => ?_)) (fun y i hy => hy) rfl rfl rfl rfl (Nat.le_refl _)⟩
    · rw [(hrn y e).1] at hy; cases hy
    · rw [e, h.tsb] at hy; cases hy

end Go.Proofs.Qxb6617295a
