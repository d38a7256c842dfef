/-
  A ROW OF STRINGS THAT THE CALL OWNS, as a slice of strings.
-/
import Derived.Test.Qxb6617295aLaw
namespace Go.Proofs.Qxb6617295a
open Go.RowKit

/-- A row of strings that the call owns, as a slice of strings. -/
theorem strs_of_row {w : World} {base n : Nat} {v : Value} {R : List ByteArray} (h : w.ownsRow base 9 1 v n (R.map Value.string)) (hR : R.length ≤ 140737488355328) (hx : ∀ x ∈ R, x.size ≤ 140737488355328) : StrsAt w.heap.size w v R := by
  have hl : R.length = n := by have := h.1; simpa using this
  rcases id h.2 with ⟨rfl, h0⟩ | ⟨g, cap, cur, rfl, _, hg, _⟩
  · subst h0
    have : R = [] := List.eq_nil_of_length_eq_zero hl
    subst this
    exact ⟨none, 0, rfl, by simp, by simp, Or.inl rfl⟩
  · refine ⟨_, cap, by rw [hl], hR, hx, Or.inr ⟨g, 0, lt_of_heap hg, rfl, fun j x hj => ?_⟩⟩
    have := h.cells (g := g) rfl j (.string x) (by simp [hj])
    rw [Addr.add_lit] at this
    exact this

theorem sel_init (w : World) (A : Obj) (base : Nat) (hb : base ≤ w.heap.size) :
    Sel (((w.alloc A).alloc (.map #[] 0)).alloc (.cells #[.map (some (w.heap.size + 1)), .slice none 0 0] 28)) base (w.heap.size + 2) St.init := by
  have hs1 : (w.alloc A).heap.size = w.heap.size + 1 := by simp
  have hs2 : ((w.alloc A).alloc (.map #[] 0)).heap.size = w.heap.size + 2 := by simp
  refine ⟨w.heap.size + 1, .slice none 0 0, .map [], fun _ => none, ?_, by omega, by omega, rfl, rfl, ?_, rfl, World.ownsRow_nil _ _ _ _, fun _ _ => rfl, fun x p h => (by cases h), fun k hk => (by cases hk), fun k _ => ⟨rfl, rfl, rfl, rfl, rfl⟩⟩
  · have := (MapKept.heap_alloc ((w.alloc A).alloc (.map #[] 0)) (.cells #[.map (some (w.heap.size + 1)), .slice none 0 0] 28)).1
    rwa [hs2] at this
  · have := (World.ownsMap_made (w.alloc A) Try.prog 9 ptrElem).alloc (.cells #[.map (some (w.heap.size + 1)), .slice none 0 0] 28)
    rwa [hs1] at this

end Go.Proofs.Qxb6617295a
