/-
  THE PLAIN LAW OF matches: the merged selector lets an object's labels by just where every requirement of the script, taken alone, holds. No Go in this text.
-/
import Derived.Test.Qxb6617295aWalkM
namespace Go.Proofs.Qxb6617295a

theorem filter_ne_lt {x : ByteArray} : ∀ {l : List ByteArray}, x ∈ l → (l.filter (fun y => decide (y ≠ x))).length + 1 ≤ l.length
  | [], h => by cases h
  | y :: r, h => by
    by_cases hy : y = x
    · have := List.length_filter_le (fun z => decide (z ≠ x)) r
      simp [hy] at this ⊢
      omega
    · have hr : x ∈ r := by
        rcases List.mem_cons.1 h with e | e
        · exact absurd e.symm hy
        · exact e
      have := filter_ne_lt hr
      simp [hy] at this ⊢
      omega
/-- As many as are different fit in. -/
theorem nodup_le : ∀ {l1 l2 : List ByteArray}, l1.Nodup → (∀ x ∈ l1, x ∈ l2) → l1.length ≤ l2.length
  | [], _, _, _ => Nat.zero_le _
  | x :: r, l2, hn, hs => by
    obtain ⟨h1, h2⟩ := List.nodup_cons.1 hn
    have ih := nodup_le (l1 := r) (l2 := l2.filter (fun y => decide (y ≠ x))) h2 (fun y hy => by
      simp only [List.mem_filter]
      exact ⟨hs y (List.mem_cons_of_mem _ hy), by simpa using fun e : y = x => h1 (e ▸ hy)⟩)
    have := filter_ne_lt (hs x (List.mem_cons_self ..))
    simp only [List.length_cons]
    omega

theorem notin_not_ex (op : ByteArray) (h : isNotin op = true) : isEx op = false := by
  have : op.toList = [110, 111, 116, 105, 110] := eq_of_beq h
  simp [isEx, this]
theorem ex_not_no (op : ByteArray) (h : isEx op = true) : isNo op = false := by
  have : op.toList = [101, 120, 105, 115, 116, 115] := eq_of_beq h
  simp [isNo, this]

theorem reqHolds_absent (op : ByteArray) (vs : List ByteArray) (v : ByteArray) : reqHolds op vs v false = !dem op := by
  unfold reqHolds dem
  cases h1 : isIn op
  · cases h2 : isNotin op
    · cases h3 : isEx op <;> cases h4 : isNo op <;> simp
    · simp [notin_not_ex op h2]
  · simp
theorem reqHolds_present (op : ByteArray) (vs : List ByteArray) (v : ByteArray) : reqHolds op vs v true = ((!isNo op && (!isIn op || hasV vs v)) && !(isNotin op && hasV vs v)) := by
  unfold reqHolds
  have ho := op_apart op
  cases h1 : isIn op
  · cases h2 : isNotin op
    · cases h3 : isEx op
      · cases h4 : isNo op <;> simp
      · simp [ex_not_no op h3]
    · simp [ho.2 h2]
  · simp [(ho.1 h1).1, (ho.1 h1).2]

variable {rs : List Req} {S : St} {look : ByteArray → Option ByteArray}

/-- Key by key. -/
theorem adm1_iff (h : Inv rs S) (k : ByteArray) : adm1 S look k = true ↔ ∀ r ∈ rs, r.key = k → holdsOne look r = true := by
  unfold adm1
  cases hl : look k with
  | none =>
    show adm S k ByteArray.empty false = true ↔ _
    simp only [adm, Bool.false_eq_true, if_false, h.pres, presL]
    constructor
    · intro hp r hr hk
      have : (dem r.op && decide (r.key = k)) = false := by
        have hp' : rs.any (fun r => dem r.op && decide (r.key = k)) = false := by
          cases hb : rs.any (fun r => dem r.op && decide (r.key = k))
          · rfl
          · rw [hb] at hp; cases hp
        have := List.any_eq_false.1 hp' r hr
        simpa using this
      unfold holdsOne
      rw [hk, hl]
      show reqHolds r.op r.vals ByteArray.empty false = true
      rw [reqHolds_absent]
      simpa [hk] using this
    · intro hp
      simp only [Bool.not_eq_true', List.any_eq_false]
      intro r hr
      by_cases hk : r.key = k
      · have := hp r hr hk
        unfold holdsOne at this
        rw [hk, hl] at this
        have h2 : reqHolds r.op r.vals ByteArray.empty false = true := this
        rw [reqHolds_absent] at h2
        simp [hk]; simpa using h2
      · simp [hk]
  | some v =>
    show adm S k v true = true ↔ _
    simp only [adm, if_true, h.absn, h.inn, h.nin, Bool.and_eq_true, Bool.not_eq_true', absL, inL, ninL, List.any_eq_false, List.all_eq_true]
    constructor
    · rintro ⟨⟨h1, h2⟩, h3⟩ r hr hk
      unfold holdsOne
      rw [hk, hl]
      show reqHolds r.op r.vals v true = true
      rw [reqHolds_present]
      have g1 := h1 r hr
      have g2 := h2 r hr
      have g3 := h3 r hr
      have hdk : decide (r.key = k) = true := by simp [hk]
      rw [hdk] at g1 g2 g3
      revert g1 g2 g3
      generalize isNo r.op = a
      generalize isIn r.op = b
      generalize isNotin r.op = c
      generalize hasV r.vals v = d
      cases a <;> cases b <;> cases c <;> cases d <;> simp
    · intro hp
      have key : ∀ r ∈ rs, r.key = k → ((!isNo r.op && (!isIn r.op || hasV r.vals v)) && !(isNotin r.op && hasV r.vals v)) = true := fun r hr hk => by
        have := hp r hr hk
        unfold holdsOne at this
        rw [hk, hl] at this
        have h2 : reqHolds r.op r.vals v true = true := this
        rwa [reqHolds_present] at h2
      refine ⟨⟨fun r hr => ?_, fun r hr => ?_⟩, fun r hr => ?_⟩
      all_goals
        by_cases hk : r.key = k
        · have := key r hr hk
          have hdk : decide (r.key = k) = true := by simp [hk]
          rw [hdk]
          revert this
          generalize isNo r.op = a
          generalize isIn r.op = b
          generalize isNotin r.op = c
          generalize hasV r.vals v = d
          cases a <;> cases b <;> cases c <;> cases d <;> simp
        · simp [hk]

theorem good_iff (h : Inv rs S) {nl : Nat} {ls : List ByteArray} (hls : ls.length = nl) (hin : ∀ k v, look k = some v → k ∈ ls) : Good S look nl ↔ holdsAll look rs = true := by
  have hment : ∀ k, k ∈ S.keys ↔ ∃ r ∈ rs, r.key = k := fun k => by
    rw [← among_iff, h.keys]
    unfold mentL
    rw [List.any_eq_true]
    simp
  have hreq : ∀ k, k ∈ S.reqd ↔ S.pres k = true := fun k => by rw [← among_iff, h.reqd, h.pres]
  have hsub : ∀ k, k ∈ S.reqd → k ∈ S.keys := fun k hk => by
    have := (hreq k).1 hk
    rw [h.pres] at this
    obtain ⟨r, hr, hh⟩ := List.any_eq_true.1 this
    simp at hh
    exact (hment k).2 ⟨r, hr, hh.2⟩
  have hall : holdsAll look rs = true ↔ ∀ k ∈ S.keys, adm1 S look k = true := by
    unfold holdsAll
    rw [List.all_eq_true]
    constructor
    · intro hp k _
      exact (adm1_iff h k).2 (fun r hr _ => hp r hr)
    · intro hp r hr
      exact (adm1_iff h r.key).1 (hp r.key ((hment r.key).2 ⟨r, hr, rfl⟩)) r hr rfl
  rw [hall]
  constructor
  · rintro ⟨_, h2, h3⟩ k hk
    by_cases hr : k ∈ S.reqd
    · exact h2 k hr
    · cases hl : look k with
      | none =>
        unfold adm1; rw [hl]
        show adm S k ByteArray.empty false = true
        have : S.pres k = false := by
          cases hp : S.pres k
          · rfl
          · exact absurd ((hreq k).2 hp) hr
        simp [adm, this]
      | some v =>
        unfold adm1; rw [hl]
        refine h3 ?_ k v hl hk
        have := nodup_le (l1 := k :: S.reqd) (l2 := S.keys) (List.nodup_cons.2 ⟨hr, h.rnod⟩) (fun x hx => by
          rcases List.mem_cons.1 hx with rfl | hx
          · exact hk
          · exact hsub x hx)
        have h5 : S.reqd.length + 1 ≤ S.keys.length := by simpa using this
        exact h5
  · intro hp
    refine ⟨?_, fun x hx => hp x (hsub x hx), fun _ k v hl hk => ?_⟩
    · rw [← hls]
      refine nodup_le h.rnod (fun x hx => ?_)
      have h1 := hp x (hsub x hx)
      cases hl : look x with
      | none =>
        unfold adm1 at h1; rw [hl] at h1
        have h2 : adm S x ByteArray.empty false = true := h1
        rw [show adm S x ByteArray.empty false = !S.pres x from rfl, (hreq x).1 hx] at h2
        cases h2
      | some v => exact hin x v hl
    · have h1 := hp k hk
      unfold adm1 at h1; rw [hl] at h1
      exact h1

theorem sub_keys (h : Inv rs S) : ∀ x ∈ S.reqd, x ∈ S.keys := fun k hk => by
  have := among_iff.2 hk
  rw [h.reqd] at this
  obtain ⟨r, hr, hh⟩ := List.any_eq_true.1 this
  simp at hh
  rw [← among_iff, h.keys]
  unfold mentL
  rw [List.any_eq_true]
  exact ⟨r, hr, by simp [hh.2]⟩
theorem key_of (h : Inv rs S) {x : ByteArray} (hx : x ∈ S.keys) : ∃ r ∈ rs, r.key = x := by
  have := among_iff.2 hx
  rw [h.keys] at this
  obtain ⟨r, hr, hh⟩ := List.any_eq_true.1 this
  exact ⟨r, hr, by simpa using hh⟩

/-- The labels' keys, listed. -/
theorem LabAt.keys {H : Type} {B : Nat} {w : World} {lv : Value} {nl : Nat} (h : LabAt H B w lv look nl) : ∃ ls : List ByteArray, ls.length = nl ∧ ∀ k v, look k = some v → k ∈ ls := by
  rcases h with ⟨_, hn, rfl⟩ | ⟨b, n, D, _, _, hown, hsz, h1, _⟩
  · exact ⟨[], rfl, fun k v hk => by rw [hn k] at hk; cases hk⟩
  · obtain ⟨es, rfl, _⟩ := hown.entries law9
    refine ⟨es.map (fun p => match p.1 with | .string l => ⟨l.toArray⟩ | _ => ByteArray.empty), by rw [← hsz]; simp [Maps.size], fun k v hk => ?_⟩
    have hh := Maps.has_true_of_atKey (h1 k v hk)
    obtain ⟨p, hp, hpk⟩ := List.any_eq_true.1 hh
    refine List.mem_map.2 ⟨p, hp, ?_⟩
    rw [WideAt.sameKey_eq hpk]
    show (⟨k.data.toList.toArray⟩ : ByteArray) = k
    exact bytes_ext (by simp)

end Go.Proofs.Qxb6617295a
