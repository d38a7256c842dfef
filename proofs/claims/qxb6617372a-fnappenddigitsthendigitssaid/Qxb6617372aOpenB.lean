/-
  FROM THE READING OF A []byte TO WHAT THE WALKS ARE TOLD OF IT.
-/
import Derived.Test.Qxb6617372aRowMem
namespace Go.Proofs.Qxb6617372a
open Go.RowKit

/-- What the frame tells of a slice of integers that came in. -/
def IsRow (k : IntKind) (w : World) (a : Option Addr) (len cap : Nat) (zs : List Int) : Prop :=
  (a = none ∧ len = 0 ∧ cap = 0 ∧ zs = []) ∨
  ∃ x, a = some x ∧ len ≤ cap ∧ cap ≤ maxLen ∧ zs.length = cap ∧ (∀ i, i < zs.length → w.cell? (x.add i) = some (.int k (zs.getD i 0))) ∧ ∀ n ∈ zs, (Lit.int k n).wf = true

theorem wf_i64 {a : Int} (h : (Lit.int .i64 a).wf = true) : -9223372036854775808 ≤ a ∧ a ≤ 9223372036854775807 := by
  simp only [Lit.wf, IntKind.min, IntKind.max, IntKind.signed, IntKind.bits, Bool.and_eq_true, decide_eq_true_eq, if_true] at h
  omega
theorem wf_u8 {a : Int} (h : (Lit.int .u8 a).wf = true) : 0 ≤ a ∧ a ≤ 255 := by
  simp [Lit.wf, IntKind.min, IntKind.max, IntKind.signed, IntKind.bits] at h
  omega

def toB (z : Int) : UInt8 := UInt8.ofNat z.toNat
theorem toB_cell {z : Int} (h : 0 ≤ z ∧ z ≤ 255) : cellB (toB z) = .int .u8 z := by
  unfold cellB toB
  rw [UInt8.toNat_ofNat']
  congr 1
  omega

theorem open_bytes {w : World} {a : Option Addr} {len cap : Nat} {zs : List Int} (h : IsRow .u8 w a len cap zs) : ∃ l : List UInt8, l.length ≤ maxLen ∧ BytesAt w.heap.size w (.slice a len cap) l := by
  rcases h with ⟨rfl, rfl, rfl, rfl⟩ | ⟨x, rfl, hl, hm, hz, hc, hw⟩
  · exact ⟨[], by simp, none, 0, rfl, fun _ => rfl, Or.inl rfl⟩
  · have hll : ((zs.take len).map toB).length = len := by simp; omega
    refine ⟨(zs.take len).map toB, by rw [hll]; omega, some x, cap, by rw [hll], fun e => (by cases e), ?_⟩
    by_cases h0 : len = 0
    · left; subst h0; rfl
    · right
      obtain ⟨b, o, sp⟩ := x
      have hc0 := hc 0 (by omega)
      have h0' : w.cell? ⟨b, o, sp⟩ = some (.int .u8 (zs.getD 0 0)) := by simpa [Addr.add] using hc0
      have hsp : sp = none := by
        cases sp with
        | none => rfl
        | some s => unfold World.cell? at h0'; split at h0' <;> simp at h0'
      subst hsp
      refine ⟨b, o, World.block_lt_of_cell? w _ h0', rfl, fun j c hj => ?_⟩
      have hjl : j < len := by have := (List.getElem?_eq_some_iff.1 hj).1; rw [hll] at this; exact this
      have hcj := hc j (by omega)
      rw [Addr.add_lit] at hcj
      rw [hcj]
      have hzj : zs[j]? = some (zs.getD j 0) := by rw [List.getD, List.getElem?_eq_getElem (by omega)]; rfl
      have hcz : c = toB (zs.getD j 0) := by
        rw [List.getElem?_map, List.getElem?_take, if_pos hjl, hzj] at hj
        simpa using hj.symm
      rw [hcz, toB_cell (wf_u8 (hw _ (List.mem_of_getElem? hzj)))]

end Go.Proofs.Qxb6617372a
