/-
  THE MEMORY OF A SELECTOR, said by an abstract state 'St', and how each step of '(*Labels).add' turns it. No walk in this text.
-/
import Derived.Test.Qxb6617295aRows
import Derived.WalkKit
import Derived.WalkSpells
import Derived.WalkLawsBesides
import Derived.Maps.RangeWalk
import Derived.Maps.AppendAt
import Derived.Deep.DeepCutAuto
import Derived.Deep.CutBlock
import Derived.BigQuiet
import Derived.Deep.QuietTactic
namespace Go.Proofs.Qxb6617295a
open Go.RowKit

theorem hide {p : Prop} (h : p) : Hid p := h

/-! ### the program's closed facts -/
theorem law9 : Maps.Keyed Try.prog 9 := Maps.string_keyed Try.underlying9
theorem zero50 (w : World) : (zeroValue 50).run Try.prog w = .ok (.pointer none) w := by kernel_rfl
theorem zero4 (w : World) : (zeroValue 4).run Try.prog w = .ok (.bool false) w := by kernel_rfl
theorem zero9 (w : World) : (zeroValue 9).run Try.prog w = .ok (.string ByteArray.empty) w := by kernel_rfl
theorem info9 : (Try.prog.info? 9).map (fun i => (i.zero, i.size, i.bytes)) = some (some (.string ByteArray.empty), 1, 16) := by kernel_rfl

/-! ### strings -/
theorem bytes_ext {a b : ByteArray} (h : a.data.toList = b.data.toList) : a = b := by
  cases a; cases b
  congr
  exact Array.toList_inj.1 h
theorem toList_iff {a b : ByteArray} : a.toList = b.toList ↔ a = b :=
  ⟨fun h => bytes_ext (by rw [← ByteArray.toList_eq, ← ByteArray.toList_eq]; exact h), fun h => by rw [h]⟩
theorem le_max {n : Nat} (h : n ≤ 140737488355328) : n ≤ maxLen := by unfold maxLen; omega
def klit (k : ByteArray) : Lit := .string k.data.toList
theorem klit_inj {a b : ByteArray} (h : klit a = klit b) : a = b := bytes_ext (by injection h)
theorem klit_key (k : ByteArray) : WideAt.IsKeyLit (klit k) := by simp [klit, WideAt.IsKeyLit]

/-! ### what memory holds of the arguments -/
/-- A slice of strings, its cells below block B. -/
def StrsAt (B : Nat) (w : World) (v : Value) (vs : List ByteArray) : Prop :=
  ∃ (ao : Option Addr) (cap : Nat), v = .slice ao vs.length cap ∧ vs.length ≤ 140737488355328 ∧ (∀ x ∈ vs, x.size ≤ 140737488355328) ∧
    (vs = [] ∨ ∃ b off, b < B ∧ ao = some ⟨b, off, none⟩ ∧ ∀ j x, vs[j]? = some x → w.cell? ⟨b, off + j, none⟩ = some (.string x))
theorem StrsAt.below {B : Nat} {w w' : World} {v : Value} {vs : List ByteArray} (h : StrsAt B w v vs) (hb : Below B w w') : StrsAt B w' v vs := by
  obtain ⟨ao, cap, rfl, h1, h2, h3⟩ := h
  refine ⟨ao, cap, rfl, h1, h2, ?_⟩
  rcases h3 with h3 | ⟨b, off, hlt, e, hc⟩
  · exact Or.inl h3
  · exact Or.inr ⟨b, off, hlt, e, fun j x hx => (hb.cell (p := ⟨b, off + j, none⟩) hlt).trans (hc j x hx)⟩
theorem StrsAt.mono {B B' : Nat} {w : World} {v : Value} {vs : List ByteArray} (h : StrsAt B w v vs) (hb : B ≤ B') : StrsAt B' w v vs := by
  obtain ⟨ao, cap, rfl, h1, h2, h3⟩ := h
  refine ⟨ao, cap, rfl, h1, h2, ?_⟩
  rcases h3 with h3 | ⟨b, off, hlt, e, hc⟩
  · exact Or.inl h3
  · exact Or.inr ⟨b, off, Nat.lt_of_lt_of_le hlt hb, e, hc⟩

/-- One requirement: its texts; 'sv': its slice of values as it lies in memory. -/
structure Req where
  key : ByteArray
  op : ByteArray
  vals : List ByteArray
  sv : Value

/-- A slice of requirements, all of it below block B. -/
def ReqsAt (B : Nat) (w : World) (v : Value) (rs : List Req) : Prop :=
  ∃ (ao : Option Addr) (cap : Nat), v = .slice ao rs.length cap ∧ rs.length ≤ 140737488355328 ∧
    (∀ r ∈ rs, r.key.size ≤ 140737488355328 ∧ r.op.size ≤ 140737488355328 ∧ StrsAt B w r.sv r.vals) ∧
    (rs = [] ∨ ∃ b off, b < B ∧ ao = some ⟨b, off, none⟩ ∧ ∀ j r, rs[j]? = some r →
      w.cell? ⟨b, off + j * 3, none⟩ = some (.string r.key) ∧ w.cell? ⟨b, off + j * 3 + 1, none⟩ = some (.string r.op) ∧ w.cell? ⟨b, off + j * 3 + 2, none⟩ = some r.sv)
theorem ReqsAt.below {B : Nat} {w w' : World} {v : Value} {rs : List Req} (h : ReqsAt B w v rs) (hb : Below B w w') : ReqsAt B w' v rs := by
  obtain ⟨ao, cap, rfl, h1, h2, h3⟩ := h
  refine ⟨ao, cap, rfl, h1, fun r hr => ⟨(h2 r hr).1, (h2 r hr).2.1, (h2 r hr).2.2.below hb⟩, ?_⟩
  rcases h3 with h3 | ⟨b, off, hlt, e, hc⟩
  · exact Or.inl h3
  · refine Or.inr ⟨b, off, hlt, e, fun j r hr => ?_⟩
    obtain ⟨c0, c1, c2⟩ := hc j r hr
    exact ⟨(hb.cell (p := ⟨b, _, none⟩) hlt).trans c0, (hb.cell (p := ⟨b, _, none⟩) hlt).trans c1, (hb.cell (p := ⟨b, _, none⟩) hlt).trans c2⟩

/-! ### the abstract state of a selector -/
structure St where
  keys : List ByteArray
  pres : ByteArray → Bool
  absn : ByteArray → Bool
  inn : ByteArray → Option (ByteArray → Bool)
  nin : ByteArray → Option (ByteArray → Bool)
  reqd : List ByteArray
  nmax : Nat

def upd {α : Type} (f : ByteArray → α) (k : ByteArray) (v : α) : ByteArray → α := fun x => if x = k then v else f x
theorem upd_same {α : Type} (f : ByteArray → α) (k : ByteArray) (v : α) : upd f k v k = v := by simp [upd]
theorem upd_other {α : Type} (f : ByteArray → α) (k : ByteArray) (v : α) {x : ByteArray} (h : x ≠ k) : upd f k v x = f x := by simp [upd, h]

/-- A map from strings to bools that may be nil. -/
def BM (w : World) (n : Nat) : Option Nat → Option (ByteArray → Bool) → Prop
  | none, none => True
  | some b, some f => ∃ D : DataW Unit, w.ownsMap Try.prog 9 (plainElem Try.prog 4) b n D ∧ ∀ v : ByteArray, D.atKey (klit v) (.lit (.bool false)) = .lit (.bool (f v))
  | _, _ => False

theorem BM.keep {w w' : World} {n n' : Nat} {m : Option Nat} {f : Option (ByteArray → Bool)} (h : BM w n m f) (hn : n ≤ n') (hb : ∀ b, m = some b → w'.heap[b]? = w.heap[b]?) : BM w' n' m f := by
  cases m with
  | none => cases f with
    | none => trivial
    | some f => exact h.elim
  | some b => cases f with
    | none => exact h.elim
    | some f =>
      obtain ⟨D, ⟨es, clock, hh, F, hs, hD⟩, hat⟩ := h
      exact ⟨D, ⟨es, clock, (hb b rfl).trans hh, F, Nat.le_trans hs hn, hD⟩, hat⟩

/-- How an element of byKey reads: by its block's number. -/
def ptrElem : Value → Option (DataW Unit × List MemPlace)
  | .pointer none => some (.nil, [])
  | .pointer (some ⟨b, 0, none⟩) => some (.lit (.int .i64 b), [])
  | _ => none
theorem ptrElem_mk (b : Nat) : ptrElem (.pointer (some ⟨b, 0, none⟩)) = some (.lit (.int .i64 b), []) := rfl
theorem ptrElem_inv {v : Value} {b : Nat} {ps : List MemPlace} (h : ptrElem v = some (.lit (.int .i64 b), ps)) : v = .pointer (some ⟨b, 0, none⟩) := by
  unfold ptrElem at h
  split at h
  · cases h
  · injection h with h; injection h with h1 h2; injection h1 with h1; injection h1 with h1 h2; have : b = _ := Int.ofNat.inj h2.symm; subst this; rfl
  · cases h
theorem ptrElem_nil_inv {v : Value} {ps : List MemPlace} (h : ptrElem v = some (.nil, ps)) : v = .pointer none := by
  unfold ptrElem at h
  split at h
  · rfl
  · injection h with h; injection h with h1 h2; cases h1
  · cases h

/-- The requirement of key k, in block rb. -/
def Ent (w : World) (tag : Nat → Option (ByteArray × Nat)) (S : St) (k : ByteArray) (rb : Nat) : Prop :=
  ∃ im nm, w.heap[rb]? = some (.cells #[.bool (S.pres k), .bool (S.absn k), .map im, .map nm] 56) ∧ tag rb = some (k, 0) ∧
    BM w S.nmax im (S.inn k) ∧ BM w S.nmax nm (S.nin k) ∧ (∀ b, im = some b → tag b = some (k, 1)) ∧ (∀ b, nm = some b → tag b = some (k, 2))

/-- THE SELECTOR in block sb, all of it from block 'base' on. -/
structure SelP (w : World) (base sb : Nat) (S : St) (mb : Nat) (rv : Value) (D : DataW Unit) (tag : Nat → Option (ByteArray × Nat)) : Prop where
  blk : w.heap[sb]? = some (.cells #[.map (some mb), rv] 28)
  bsb : base ≤ sb
  bmb : base ≤ mb
  tsb : tag sb = none
  tmb : tag mb = none
  own : w.ownsMap Try.prog 9 ptrElem mb S.keys.length D
  size : Maps.size D = S.keys.length
  row : w.ownsRow base 9 1 rv S.reqd.length (S.reqd.map Value.string)
  trow : ∀ g, rv.ownBlock = some g → tag g = none
  tags : ∀ x p, tag x = some p → base ≤ x ∧ x < w.heap.size
  ents : ∀ k, k ∈ S.keys → ∃ rb : Nat, D.atKey (klit k) .nil = .lit (.int .i64 rb) ∧ Ent w tag S k rb
  nots : ∀ k, k ∉ S.keys → Maps.has D (klit k) = false ∧ S.pres k = false ∧ S.absn k = false ∧ S.inn k = none ∧ S.nin k = none

def Sel (w : World) (base sb : Nat) (S : St) : Prop := ∃ mb rv D tag, SelP w base sb S mb rv D tag

/-- Entries are kept where their blocks are. -/
theorem Ent.keep {w w' : World} {tag tag' : Nat → Option (ByteArray × Nat)} {S S' : St} {k : ByteArray} {rb : Nat} (h : Ent w tag S k rb)
    (hb : ∀ x i, tag x = some (k, i) → w'.heap[x]? = w.heap[x]?) (ht : ∀ x i, tag x = some (k, i) → tag' x = some (k, i))
    (h1 : S'.pres k = S.pres k) (h2 : S'.absn k = S.absn k) (h3 : S'.inn k = S.inn k) (h4 : S'.nin k = S.nin k) (h5 : S.nmax ≤ S'.nmax) : Ent w' tag' S' k rb := by
  obtain ⟨im, nm, hh, t0, b1, b2, t1, t2⟩ := h
  refine ⟨im, nm, ?_, ht _ _ t0, ?_, ?_, fun b e => ht _ _ (t1 b e), fun b e => ht _ _ (t2 b e)⟩
  · rw [hb _ _ t0, h1, h2]; exact hh
  · rw [h3]; exact b1.keep h5 (fun b e => hb _ _ (t1 b e))
  · rw [h4]; exact b2.keep h5 (fun b e => hb _ _ (t2 b e))

theorem ownsRow_same {w w' : World} {base e size n : Nat} {v : Value} {xs : List Value} (h : w.ownsRow base e size v n xs) (hb : ∀ g, v.ownBlock = some g → w'.heap[g]? = w.heap[g]?) : w'.ownsRow base e size v n xs := by
  refine ⟨h.1, ?_⟩
  rcases h.2 with hn | ⟨g, cap, cur, rfl, hbg, hgg, rest⟩
  · exact .inl hn
  · exact .inr ⟨g, cap, cur, rfl, hbg, (hb g rfl).trans hgg, rest⟩
theorem ownsMap_same {H : Type} {P : Program} {k : TypeId} {R : Value → Option (DataW H × List MemPlace)} {w w' : World} {b n : Nat} {D : DataW H} (h : w.ownsMap P k R b n D) (hb : w'.heap[b]? = w.heap[b]?) : w'.ownsMap P k R b n D := by
  obtain ⟨es, clock, hh, r⟩ := h
  exact ⟨es, clock, hb.trans hh, r⟩

theorem lt_of_heap {w : World} {b : Nat} {o : Obj} (h : w.heap[b]? = some o) : b < w.heap.size := (Array.getElem?_eq_some_iff.1 h).1

/-- The selector stays while nothing of its own turns. -/
theorem SelP.below {w w' : World} {base sb mb : Nat} {S : St} {rv : Value} {D : DataW Unit} {tag : Nat → Option (ByteArray × Nat)} (h : SelP w base sb S mb rv D tag) (hb : Below w.heap.size w w') : SelP w' base sb S mb rv D tag where
  blk := (hb.block sb (lt_of_heap h.blk)).trans h.blk
  bsb := h.bsb
  bmb := h.bmb
  tsb := h.tsb
  tmb := h.tmb
  own := ownsMap_same h.own (hb.block mb h.own.lt)
  size := h.size
  row := ownsRow_same h.row (fun g hg => hb.block g (h.row.lt g hg).2)
  trow := h.trow
  tags := fun x p hp => ⟨(h.tags x p hp).1, Nat.lt_of_lt_of_le (h.tags x p hp).2 hb.size⟩
  ents := fun k hk => by
    obtain ⟨rb, hat, he⟩ := h.ents k hk
    exact ⟨rb, hat, he.keep (fun x i hx => hb.block x (h.tags x _ hx).2) (fun _ _ hx => hx) rfl rfl rfl rfl (Nat.le_refl _)⟩
  nots := h.nots
theorem Sel.below {w w' : World} {base sb : Nat} {S : St} (h : Sel w base sb S) (hb : Below w.heap.size w w') : Sel w' base sb S := by
  obtain ⟨mb, rv, D, tag, h⟩ := h
  exact ⟨mb, rv, D, tag, h.below hb⟩

end Go.Proofs.Qxb6617295a
