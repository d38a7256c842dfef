/-
  ROWS OF BYTES: what memory holds of a []byte; 'append(b, make([]byte, n)...)' onto a row of the call's own; a store into such a row. No walk in this text.
-/
import Derived.Test.Qxb6617372aDig
import Derived.Test.Qxb6617372aAppPlain
import Derived.Lib.AppendZeros
import Derived.Lib.AppendZerosOnto
import Derived.Maps.Range
import Derived.BigQuiet
import Derived.Deep.QuietTactic
namespace Go.Proofs.Qxb6617372a
open Go.RowKit

theorem info5 : (Try.prog.info? 5).map (fun i => (i.zero, i.size, i.bytes)) = some (some (.int .u8 0), 1, 1) := by kernel_rfl

def cellB (c : UInt8) : Value := .int .u8 (c.toNat : Int)
def bcells (l : List UInt8) : List Value := l.map cellB
theorem bcells_length (l : List UInt8) : (bcells l).length = l.length := by simp [bcells]
theorem bcells_append (a b : List UInt8) : bcells (a ++ b) = bcells a ++ bcells b := by simp [bcells]
theorem bcells_zero (n : Nat) : bcells (List.replicate n 0) = List.replicate n (.int .u8 0) := by
  simp [bcells, cellB]
theorem bcells_set (l : List UInt8) (p : Nat) (c : UInt8) : (bcells l).set p (cellB c) = bcells (l.set p c) := by simp [bcells, List.map_set]
theorem bcells_get {l : List UInt8} {j : Nat} {c : UInt8} (h : l[j]? = some c) : (bcells l)[j]? = some (cellB c) := by simp [bcells, h]

/-- A row of bytes that the call owns. -/
abbrev Row (w : World) (base : Nat) (v : Value) (l : List UInt8) : Prop := w.ownsRow base 5 1 v l.length (bcells l)

theorem zeroCells_u8 (k : Nat) : (Builtin.zeroCells (Value.int .u8 0).cells k).toList = List.replicate k (.int .u8 0) := by
  apply List.ext_getElem?
  intro i
  by_cases hi : i < k
  · simp [Builtin.zeroCells, Value.cells, hi, Nat.mod_one]
  · simp [Builtin.zeroCells, Value.cells, hi]
theorem madeCells_u8 (k : Nat) : (madeCells (Value.int .u8 0).cells (k * 1)).toList = List.replicate k (.int .u8 0) := by
  apply List.ext_getElem?
  intro i
  by_cases hi : i < k
  · simp [madeCells, Value.cells, hi, Nat.mod_one]
  · simp [madeCells, Value.cells, hi]

theorem heap_setCell_same {w : World} {b i : Nat} {c : Array Value} {t : TypeId} {fr : Nat × Nat} (h : w.heap[b]? = some (.cells c t fr)) (u : Value) :
    (w.setCell ⟨b, i, none⟩ u).heap[b]? = some (.cells (c.setIfInBounds i u) t fr) := by
  simp only [World.setCell, Array.getElem?_modify]
  rw [h]
  simp

/-- 'append(v, make([]byte, k)...)' ONTO A ROW OF THE CALL's OWN. -/
theorem run_zeros_own (w : World) (base : Nat) (ty : TypeId) (v : Value) (n k : Nat) (xs : List Value) (hown : w.ownsRow base 5 1 v n xs) (hn : n + k ≤ 70368744177664) (hbase : base ≤ w.heap.size) :
    ∃ v' w', (Builtin.append_ #[22, 3] ty #[v, .int .i64 k]).run Try.prog w = .ok v' w' ∧ w'.ownsRow base 5 1 v' (n + k) (xs ++ List.replicate k (.int .u8 0)) ∧ w.grownBy w' v.ownBlock ∧ (v'.ownBlock = v.ownBlock ∨ v'.ownBlock = some w.heap.size) := by
  obtain ⟨i, hi, hz, hs, hb⟩ := info_parts info5
  have hxl : xs.length = n := by have := hown.1; omega
  have hlen : (xs ++ List.replicate k (Value.int .u8 0)).length = (n + k) * 1 := by simp [hxl]
  have hkw : IntKind.i64.wrap (k : Int) = k := by rw [IntKind.wrap_i64]; omega
  have hneg : ¬ ((k : Int) < 0) := by omega
  have h48i : ¬ (281474976710656 < (k : Int)) := by omega
  -- the growing arm
  have grown : ∀ (old : Nat) (row : Option Nat) (cur : Array Value), old < n + k → cur.toList = xs ++ List.replicate k (.int .u8 0) ++ List.replicate (grownCap w (n + k) old 5 - (n + k)) (.int .u8 0) →
      (w.drew.alloc (.cells cur 5)).ownsRow base 5 1 (.slice (some ⟨w.heap.size, 0, none⟩) (n + k) (grownCap w (n + k) old 5)) (n + k) (xs ++ List.replicate k (.int .u8 0)) ∧ w.grownBy (w.drew.alloc (.cells cur 5)) row := by
    intro old row cur ho hcur
    have hge := grownCap_ge w (n + k) old 5
    have hcm : grownCap w (n + k) old 5 ≤ maxLen := grownCap_le_maxLen w (n + k) old 5 (by unfold maxLen; omega)
    refine ⟨⟨hlen, .inr ⟨w.heap.size, _, cur, rfl, hbase, heap_alloc_new w.drew _, hge, hcm, ?_, ?_⟩⟩, ⟨rfl, rfl, rfl, by simp, fun j hj _ => Below.heap_alloc w.drew _ j hj⟩⟩
    · rw [← Array.length_toList, hcur]; simp [hxl]; omega
    · rw [hcur, ← hlen]; exact List.take_left
  rcases hown.2 with ⟨rfl, rfl⟩ | ⟨g, cap, cur, rfl, hbg, hg, hnc, hcm, hcs, htake⟩
  · have hx : xs = [] := List.eq_nil_of_length_eq_zero hxl
    subst hx
    by_cases hk : k = 0
    · subst hk
      refine ⟨.slice none 0 0, w, ?_, World.ownsRow_nil w base 5 1, ⟨rfl, rfl, rfl, Nat.le_refl _, fun _ _ _ => rfl⟩, Or.inl rfl⟩
      simp [Builtin.append_, run_underlying Try.underlying22, run_underlying Try.underlying3, sizeOf, typeInfo, hi, asInt, asIntOf, hb, IntKind.wrap_i64]
    · have hr := Lib.run_append_nil_zeros w 22 3 ty 5 i (.int .u8 0) .i64 .i64 Try.underlying22 Try.underlying3 hi hz k (by omega) (by omega) (by omega) (by rw [hb]; omega)
      obtain ⟨q1, q2⟩ := grown 0 (Value.ownBlock (.slice none 0 0)) (Builtin.zeroCells (Value.int .u8 0).cells k ++ Builtin.zeroCells (Value.int .u8 0).cells (grownCap w k 0 5 - k)) (by omega) (by simp [zeroCells_u8])
      simp only [Nat.zero_add] at q1 q2 ⊢
      exact ⟨_, _, hr, q1, q2, Or.inr rfl⟩
  · simp only [Nat.mul_one] at hcs htake
    by_cases hroom : n + k ≤ cap
    · have hst := run_storeCells_at Try.prog g n 5 (List.replicate k (.int .u8 0)) 0 cur w hg (by simp; omega) (fun u hu => by rw [List.eq_of_mem_replicate hu]; rfl)
      simp only [Nat.add_zero, List.length_replicate] at hst
      refine ⟨.slice (some ⟨g, 0, none⟩) (n + k) cap, w.setRow g (cur.toList.take n ++ List.replicate k (Value.int .u8 0) ++ cur.toList.drop (n + k)).toArray, ?_, ⟨hlen, .inr ⟨g, cap, _, rfl, hbg, setRow_heap w g cur _ 5 _ hg, hroom, hcm, ?_, ?_⟩⟩, ⟨rfl, rfl, rfl, by simp, fun j _ hj => setRow_other w g j _ (fun e => hj (by simp [Value.ownBlock, e]))⟩, Or.inl rfl⟩
      · by_cases hk : k = 0
        · subst hk
          simp [Builtin.append_, run_underlying Try.underlying22, run_underlying Try.underlying3, sizeOf, typeInfo, hi, hs, hb, asInt, asIntOf, IntKind.wrap_i64, hnc, Addr.add_lit] at hst ⊢
          rw [hst]; rfl
        · simp [Builtin.append_, run_underlying Try.underlying22, run_underlying Try.underlying3, sizeOf, typeInfo, zeroValue, hi, hz, hs, hb, asInt, asIntOf, hkw, hneg, h48i, hk, hroom, Addr.add_lit, zeroCells_u8, hst]
      · simp; omega
      · rw [htake, ← hlen]
        exact List.take_left
    · have holds : ∀ j u, xs[j]? = some u → w.drew.cell? ((⟨g, 0, none⟩ : Addr).add j) = some u := fun j u hu => hown.cells (g := g) rfl j u hu
      have hf := run_firstCells_some (P := Try.prog) w.drew i.size n ⟨g, 0, none⟩ n cap xs (by rw [hs, hxl]; omega) holds
      have hr := Lib.run_append_grow_zeros w 22 3 ty 5 i (.int .u8 0) .i64 .i64 Try.underlying22 Try.underlying3 hi hz (some ⟨g, 0, none⟩) n cap xs hf k (by omega) (by omega) (by omega) (by omega) (by rw [hb]; omega) (growslice_fits (by omega) (by rw [hb]; omega))
      obtain ⟨q1, q2⟩ := grown cap (Value.ownBlock (.slice (some ⟨g, 0, none⟩) n cap)) (xs.toArray ++ Builtin.zeroCells (Value.int .u8 0).cells k ++ Builtin.zeroCells (Value.int .u8 0).cells (grownCap w (n + k) cap 5 - (n + k))) (by omega) (by simp [zeroCells_u8])
      exact ⟨_, _, hr, q1, q2, Or.inr rfl⟩

/-- AT THE OPERATION, FOR THE WALK. -/
theorem wp_zeros_own (w : World) {ops : Array Oper} {rest : List Oper} {o : Oper} {a : Act} {Q : Exit → Act → World → Prop} (hgd : o.guard = none) (s x : Operand)
    (ho : o.op = .call { callee := .builtin .append, args := #[s, x], argTypes := #[22, 3] }) (base : Nat) (v : Value) (l : List UInt8) (k : Nat) (hs : a.eval s = v) (hx : a.eval x = .int .i64 k) (hown : Row w base v l) (hn : l.length + k ≤ 70368744177664) (hbase : base ≤ w.heap.size)
    (h : ∀ v' w', Row w' base v' (l ++ List.replicate k 0) → w.grownBy w' v.ownBlock → (v'.ownBlock = v.ownBlock ∨ v'.ownBlock = some w.heap.size) → wpList Try.prog ops Q rest (a.put o.dst v') w') :
    wpList Try.prog ops Q (o :: rest) a w := by
  obtain ⟨v', w', hr, h1, h2, h3⟩ := run_zeros_own w base o.type v l.length k (bcells l) hown hn hbase
  refine Lib.wpList_append_run w hgd s x 22 3 ho v (.int .i64 k) hs hx v' w' hr (h v' w' ?_ h2 h3)
  show w'.ownsRow base 5 1 v' (l ++ List.replicate k 0).length (bcells (l ++ List.replicate k 0))
  rw [bcells_append, bcells_zero]
  simpa using h1

/-- A row that holds something: where it lies. -/
theorem Row.shape {w : World} {base : Nat} {v : Value} {l : List UInt8} (h : Row w base v l) (hl : 0 < l.length) :
    ∃ g cap cur, v = .slice (some ⟨g, 0, none⟩) l.length cap ∧ base ≤ g ∧ w.heap[g]? = some (.cells cur 5) ∧ ∀ j c, l[j]? = some c → w.cell? ⟨g, j, none⟩ = some (cellB c) := by
  rcases id h.2 with ⟨_, h0⟩ | ⟨g, cap, cur, rfl, hb, hg, _⟩
  · omega
  · refine ⟨g, cap, cur, rfl, hb, hg, fun j c hc => ?_⟩
    have := h.cells (g := g) rfl j (cellB c) (bcells_get hc)
    rwa [Addr.add_lit, Nat.zero_add] at this

/-- 'b[p] = c' in a row of the call's own. -/
theorem Row.set {w : World} {base g cap p : Nat} {l : List UInt8} {c : UInt8} (h : Row w base (.slice (some ⟨g, 0, none⟩) l.length cap) l) :
    Row (w.setCell ⟨g, p, none⟩ (cellB c)) base (.slice (some ⟨g, 0, none⟩) l.length cap) (l.set p c) ∧ w.grownBy (w.setCell ⟨g, p, none⟩ (cellB c)) (some g) := by
  refine ⟨?_, ⟨rfl, rfl, rfl, by simp [World.setCell], fun j _ hj => Below.heap_setCell _ _ _ _ (fun e => hj (by rw [e]))⟩⟩
  show World.ownsRow _ base 5 1 _ (l.set p c).length (bcells (l.set p c))
  rw [List.length_set, ← bcells_set]
  refine ⟨by simp [bcells], ?_⟩
  rcases id h.2 with ⟨e, _⟩ | ⟨g', cap', cur, e, hb, hg, hnc, hcm, hcs, htake⟩
  · cases e
  · injection e with e1 e2 e3
    injection e1 with e1
    injection e1 with e1 _ _
    subst e1 e3
    refine .inr ⟨g, cap, cur.setIfInBounds p (cellB c), rfl, hb, heap_setCell_same hg _, hnc, hcm, by simpa using hcs, ?_⟩
    rw [Array.toList_setIfInBounds, ← htake, List.take_set]

/-- A []byte as memory holds it. -/
def BytesAt (B : Nat) (w : World) (v : Value) (l : List UInt8) : Prop :=
  ∃ (ao : Option Addr) (cap : Nat), v = .slice ao l.length cap ∧ (ao = none → l = []) ∧
    (l = [] ∨ ∃ b off, b < B ∧ ao = some ⟨b, off, none⟩ ∧ ∀ j c, l[j]? = some c → w.cell? ⟨b, off + j, none⟩ = some (cellB c))
theorem BytesAt.below {B : Nat} {w w' : World} {v : Value} {l : List UInt8} (h : BytesAt B w v l) (hb : Below B w w') : BytesAt B w' v l := by
  obtain ⟨ao, cap, rfl, h1, h2⟩ := h
  refine ⟨ao, cap, rfl, h1, ?_⟩
  rcases h2 with h2 | ⟨b, off, hlt, e, hc⟩
  · exact Or.inl h2
  · exact Or.inr ⟨b, off, hlt, e, fun j x hx => (hb.cell (p := ⟨b, off + j, none⟩) hlt).trans (hc j x hx)⟩
theorem Row.bytes {w : World} {base : Nat} {v : Value} {l : List UInt8} (h : Row w base v l) : BytesAt w.heap.size w v l := by
  rcases id h.2 with ⟨rfl, h0⟩ | ⟨g, cap, cur, rfl, hb, hg, _⟩
  · have : l = [] := List.eq_nil_of_length_eq_zero h0
    subst this
    exact ⟨none, 0, rfl, fun _ => rfl, Or.inl rfl⟩
  · refine ⟨_, cap, rfl, fun e => (by cases e), Or.inr ⟨g, 0, (Array.getElem?_eq_some_iff.1 hg).1, rfl, fun j c hc => ?_⟩⟩
    have := h.cells (g := g) rfl j (cellB c) (bcells_get hc)
    rwa [Addr.add_lit] at this
theorem Row.keep {w w' : World} {base : Nat} {v : Value} {l : List UInt8} {row : Option Nat} (h : Row w base v l) (hg : w.grownBy w' row) (hne : v.ownBlock = none ∨ v.ownBlock ≠ row) : Row w' base v l := World.ownsRow.kept h hg hne

end Go.Proofs.Qxb6617372a
