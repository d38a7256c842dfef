/-
  THE LABELS (a map from strings to strings that came in), OPENED.
-/
import Derived.Test.Qxb6617295aWalkF3
import Derived.Test.Qxb6617295aOpen
namespace Go.Proofs.Qxb6617295a
open Go.ChangeShapes Go.WideShapes Go.ChangeAt Go.RowKit

def lookD {H : Type} (D : DataW H) (k : ByteArray) : Option ByteArray := match D.atKey (klit k) .nil with | .lit (.string l) => some ⟨l.toArray⟩ | _ => none

/-- What a map of strings to strings holds at a key. -/
theorem lookD_spec {H : Type} {w : World} {b n : Nat} {D : DataW H} (h : w.ownsMap Try.prog 9 (plainElem Try.prog 9) b n D) :
    (∀ k v, lookD D k = some v → ∀ z, D.atKey (klit k) z = .lit (.string v.data.toList)) ∧ (∀ k, lookD D k = none → Maps.has D (klit k) = false) := by
  obtain ⟨es, clock, hb, F, _, rfl⟩ := h
  have hel : ∀ p ∈ (es.toList.map (WideElems.rg Try.prog 9 (plainElem (H := H) Try.prog 9))).foldr DataW.insert [], ∃ s : ByteArray, p.2 = .lit (.string s.data.toList) := by
    intro p hp
    obtain ⟨x, hx, rfl⟩ := List.mem_map.1 (mem_sorted.1 hp)
    obtain ⟨y, hy⟩ := F.reads x hx
    obtain ⟨z, hz, hd⟩ := WideElems.rd_val hy
    obtain ⟨s, _, rfl, _⟩ := plainElem_string_inv Try.underlying9 hz
    exact ⟨s, by rw [WideElems.rg_of hy, hd]⟩
  generalize (es.toList.map (WideElems.rg Try.prog 9 (plainElem (H := H) Try.prog 9))).foldr DataW.insert [] = l at hel
  have key : ∀ k : ByteArray, (Maps.has (.map l) (klit k) = false ∧ lookD (.map l) k = none) ∨ ∃ s : ByteArray, (∀ z, (DataW.map l).atKey (klit k) z = .lit (.string s.data.toList)) ∧ lookD (.map l) k = some s := by
    intro k
    cases hf : l.find? (fun p => p.1.sameKey (klit k)) with
    | none =>
      left
      have hno : Maps.has (.map l) (klit k) = false := List.any_eq_false.2 (fun p hp => by simpa using List.find?_eq_none.1 hf p hp)
      exact ⟨hno, by unfold lookD; rw [Maps.atKey_of_not_has hno]⟩
    | some p =>
      right
      obtain ⟨s, hs⟩ := hel p (List.mem_of_find?_eq_some hf)
      have hz : ∀ z, (DataW.map l).atKey (klit k) z = .lit (.string s.data.toList) := fun z => by
        show (match l.find? (fun p => p.1.sameKey (klit k)) with | some p => p.2 | none => z) = _
        rw [hf]; exact hs
      refine ⟨s, hz, ?_⟩
      unfold lookD
      rw [hz]
  refine ⟨fun k v hv => ?_, fun k hv => ?_⟩
  · rcases key k with ⟨_, h2⟩ | ⟨s, h1, h2⟩
    · rw [h2] at hv; cases hv
    · rw [h2] at hv; injection hv with hv; subst hv; exact h1
  · rcases key k with ⟨h1, _⟩ | ⟨s, _, h2⟩
    · exact h1
    · rw [h2] at hv; cases hv

/-- THE LABELS, OPENED. -/
theorem open_labels {H : Type} {enc : TypeId × Value → H} {W : World} {sp : Nat → Bool} {held : Bool} {fuel : Nat} {m : Option Nat} {x : DataW H × List MemPlace} (h : DataW.trod enc Try.prog W 0 sp held fuel 23 [.map m] = some x) :
    ∃ look nl, LabAt H W.heap.size W (.map m) look nl := by
  rcases WideElems.open_map Try.underlying23 h with ⟨hcs, _⟩ | ⟨b, es, clock, n, _, hcs, hb, _, F, _⟩
  · simp at hcs
    subst hcs
    exact ⟨fun _ => none, 0, Or.inl ⟨rfl, fun _ => rfl, rfl⟩⟩
  · simp at hcs
    subst hcs
    have hown := World.ownsMap_of_fit (R := plainElem Try.prog 9) hb F (fun x _ z hz => elemAt_plainElem_string Try.underlying9 hz)
    obtain ⟨h1, h2⟩ := lookD_spec hown
    exact ⟨_, _, Or.inr ⟨b, _, _, rfl, lt_of_heap hb, hown, rfl, h1, h2⟩⟩

end Go.Proofs.Qxb6617295a
