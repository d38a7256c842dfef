/-
  FROM THE READING OF A []LabelReq TO WHAT THE WALKS ARE TOLD OF IT.
-/
import Derived.Test.Qxb6617295aMem
import Derived.ProofKit
import Derived.Deep.Slices
import Derived.Deep.Strs
namespace Go.Proofs.Qxb6617295a
open Go.ChangeShapes Go.WideShapes Go.RowKit

theorem cells38 : Try.prog.cellsOf 38 = 3 := by kernel_rfl
theorem cells9 : Try.prog.cellsOf 9 = 1 := by kernel_rfl
theorem cells26 : Try.prog.cellsOf 26 = 1 := by kernel_rfl
theorem bytes9 : Try.prog.bytesOf 9 = 16 := by kernel_rfl
theorem bytes38 : Try.prog.bytesOf 38 = 56 := by kernel_rfl

section
variable {H : Type} {enc : TypeId × Value → H} {W : World} {sp : Nat → Bool} {held : Bool}

theorem mem_weightsAll {P : Program} {e : TypeId} {d : DataW H} : ∀ {l : List (DataW H)}, d ∈ l → ∀ n ∈ d.weights P e, n ∈ DataW.weightsAll P e l
  | [], h, _, _ => by cases h
  | x :: r, h, n, hn => by
    simp only [DataW.weightsAll, List.mem_append]
    rcases List.mem_cons.1 h with rfl | h
    · exact Or.inl hn
    · exact Or.inr (mem_weightsAll h n hn)

theorem spot_none {a : Addr} {v : Value} (h : W.cell? (a.add 0) = some v) : a = ⟨a.block, a.off, none⟩ := by
  obtain ⟨b, o, s⟩ := a
  have h' : W.cell? ⟨b, o, s⟩ = some v := by simpa [Addr.add] using h
  cases s with
  | none => rfl
  | some s => unfold World.cell? at h'; split at h' <;> simp at h'

theorem add_none (b o i : Nat) : (⟨b, o, none⟩ : Addr).add i = ⟨b, o + i, none⟩ := Addr.add_lit _ _ _

theorem open_strs_at {fuel : Nat} {cs : List Value} {x : DataW H × List MemPlace} (h : DataW.trod enc Try.prog W 0 sp held fuel 26 cs = some x) (hw : ∀ n ∈ x.1.weights Try.prog 26, n ≤ reachBytes) :
    ∃ v vs, cs = [v] ∧ StrsAt W.heap.size W v vs := by
  have hr := reachBytes_lt
  rcases Deep.open_slice1 Try.underlying26 cells9 h with ⟨rfl, rfl⟩ | ⟨a, len, cap, m, n, V, D, Pl, rfl, _, hl, hm, hmm, rfl, hx⟩
  · exact ⟨_, [], rfl, none, 0, rfl, by simp, by simp, Or.inl rfl⟩
  have hlm : len ≤ m := by rw [hmm]; split <;> omega
  have hlen : len ≤ 140737488355328 := by
    have := hw _ (by simp only [DataW.weights, Try.underlying26]; exact List.mem_cons_self ..)
    rw [bytes9] at this
    simp at this
    omega
  obtain ⟨f, hf⟩ := Deep.choose_lt (α := ByteArray) (n := len) (p := fun i s => V i = .string s ∧ s.size ≤ 140737488355328) (fun i hi => by
    obtain ⟨_, ht⟩ := hx i (by omega)
    obtain ⟨s, hc, hz, _⟩ := DataW.trod_string Try.underlying9 ht
    simp at hc
    refine ⟨s, hc, ?_⟩
    have hD : D i = .lit (.string s.data.toList) := by injection hz
    have := hw s.data.toList.length (by
      simp only [DataW.weights, Try.underlying26]
      refine List.mem_cons_of_mem _ (List.mem_append_left _ (mem_weightsAll (d := D i) (List.mem_map.2 ⟨i, List.mem_range.2 hi, rfl⟩) _ ?_))
      rw [hD]; simp [DataW.weights])
    have hs : s.data.toList.length = s.size := by simp
    omega)
  refine ⟨_, (List.range len).map f, rfl, some a, cap, by simp, by simpa using hlen, ?_, ?_⟩
  · intro x hx
    obtain ⟨i, hi, rfl⟩ := List.mem_map.1 hx
    exact (hf i (List.mem_range.1 hi)).2
  · by_cases h0 : len = 0
    · subst h0; exact Or.inl rfl
    · right
      have ha := spot_none (hx 0 (by omega)).1
      refine ⟨a.block, a.off, World.block_lt_of_cell? W a (u := V 0) (by have := (hx 0 (by omega)).1; simpa [Addr.add] using this), by rw [← ha], fun j y hj => ?_⟩
      have hjl : j < len := by have := (List.getElem?_eq_some_iff.1 hj).1; simpa using this
      have hy : f j = y := by simpa [hjl] using hj
      have := (hx j (by omega)).1
      rw [ha, add_none, (hf j hjl).1, hy] at this
      exact this

theorem open_reqs_at {fuel : Nat} {cs : List Value} {x : DataW H × List MemPlace} (h : DataW.trod enc Try.prog W 0 sp held fuel 22 cs = some x) (hw : ∀ n ∈ x.1.weights Try.prog 22, n ≤ reachBytes) :
    ∃ v rs, cs = [v] ∧ ReqsAt W.heap.size W v rs := by
  have hr := reachBytes_lt
  rcases Deep.open_slice Try.underlying22 h with ⟨rfl, rfl⟩ | ⟨a, len, cap, m, n, D, Pl, rfl, _, hl, hm, hmm, rfl, hx⟩
  · exact ⟨_, [], rfl, none, 0, rfl, by simp, by simp, Or.inl rfl⟩
  have hlm : len ≤ m := by rw [hmm]; split <;> omega
  have hlen : len ≤ 140737488355328 := by
    have := hw _ (by simp only [DataW.weights, Try.underlying22]; exact List.mem_cons_self ..)
    rw [bytes38] at this
    simp at this
    omega
  rw [cells38] at hx
  obtain ⟨f, hf⟩ := @Deep.choose_lt Req ⟨⟨ByteArray.empty, ByteArray.empty, [], .slice none 0 0⟩⟩ len (fun i r => (r.key.size ≤ 140737488355328 ∧ r.op.size ≤ 140737488355328 ∧ StrsAt W.heap.size W r.sv r.vals) ∧
      W.cell? (a.add (i * 3)) = some (.string r.key) ∧ W.cell? ((a.add (i * 3)).add 1) = some (.string r.op) ∧ W.cell? ((a.add (i * 3)).add 2) = some r.sv) (fun i hi => by
    obtain ⟨cs', hc, ht⟩ := hx i (by omega)
    obtain ⟨_, hlen', hcell⟩ := World.cells?_some hc
    obtain ⟨y0, y1, y2, n', hD, _, t0, t1, t2⟩ := Deep.trod_struct3 Try.underlying38 ht
    have hwi : ∀ q ∈ (D i).weights Try.prog 38, q ≤ reachBytes := fun q hq => hw q (by
      simp only [DataW.weights, Try.underlying22]
      exact List.mem_cons_of_mem _ (List.mem_append_left _ (mem_weightsAll (d := D i) (List.mem_map.2 ⟨i, List.mem_range.2 hi, rfl⟩) _ hq)))
    have hDi : D i = .agg [y0.1, y1.1, y2.1] := by injection hD
    rw [hDi] at hwi
    simp only [DataW.weights, Try.underlying38, List.map_cons, List.map_nil, DataW.weightsEach, List.append_nil, List.mem_append] at hwi
    match cs', hlen' with
    | [c0, c1, c2], _ =>
      simp [cells9, cells26] at t0 t1 t2
      obtain ⟨k, e0, z0, _⟩ := DataW.trod_string Try.underlying9 t0
      obtain ⟨o, e1, z1, _⟩ := DataW.trod_string Try.underlying9 t1
      obtain ⟨v, vs, e2, hS⟩ := open_strs_at t2 (fun q hq => hwi q (Or.inr (Or.inr hq)))
      simp at e0 e1 e2
      subst e0 e1 e2
      have b0 := hwi k.data.toList.length (Or.inl (by rw [z0]; simp [DataW.weights]))
      have b1 := hwi o.data.toList.length (Or.inr (Or.inl (by rw [z1]; simp [DataW.weights])))
      have s0 : k.data.toList.length = k.size := by simp
      have s1 : o.data.toList.length = o.size := by simp
      refine ⟨⟨k, o, vs, _⟩, ⟨by show k.size ≤ _; omega, by show o.size ≤ _; omega, hS⟩, ?_, ?_, ?_⟩
      · have := hcell 0 (by omega); simpa [Addr.add] using this
      · simpa using hcell 1 (by omega)
      · simpa using hcell 2 (by omega))
  refine ⟨_, (List.range len).map f, rfl, some a, cap, by simp, by simpa using hlen, ?_, ?_⟩
  · intro x hx
    obtain ⟨i, hi, rfl⟩ := List.mem_map.1 hx
    exact (hf i (List.mem_range.1 hi)).1
  · by_cases h0 : len = 0
    · subst h0; exact Or.inl rfl
    · right
      have hc0 : W.cell? (a.add 0) = some (.string (f 0).key) := by have := (hf 0 (by omega)).2.1; rwa [Nat.zero_mul] at this
      have ha := spot_none hc0
      refine ⟨a.block, a.off, World.block_lt_of_cell? W a (u := .string (f 0).key) (by simpa [Addr.add] using hc0), by rw [← ha], fun j y hj => ?_⟩
      have hjl : j < len := by have := (List.getElem?_eq_some_iff.1 hj).1; simpa using this
      have hy : f j = y := by simpa [hjl] using hj
      obtain ⟨_, g0, g1, g2⟩ := hf j hjl
      rw [ha, add_none] at g0 g1 g2
      rw [add_none] at g1 g2
      rw [hy] at g0 g1 g2
      exact ⟨g0, g1, g2⟩

end
end Go.Proofs.Qxb6617295a
