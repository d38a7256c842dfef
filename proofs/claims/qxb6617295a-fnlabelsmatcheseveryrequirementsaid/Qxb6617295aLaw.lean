/-
  THE PLAIN LAW: what the selector's state is behind adding a script, and that it admits just what the script asks. No Go in this text.
-/
import Derived.Test.Qxb6617295aWalkC
namespace Go.Proofs.Qxb6617295a

def seenIn (l : List Req) (k : ByteArray) : Bool := l.any (fun q => dem q.op && (q.key.toList == k.toList))
theorem beq_toList (a b : ByteArray) : (a.toList == b.toList) = decide (a = b) := by
  by_cases h : a = b
  · simp [h]
  · have : (a.toList == b.toList) = false := by
      cases hb : (a.toList == b.toList)
      · rfl
      · exact absurd (toList_iff.1 (eq_of_beq hb)) h
    simp [this, h]

def presL (l : List Req) (k : ByteArray) : Bool := l.any (fun r => dem r.op && decide (r.key = k))
def absL (l : List Req) (k : ByteArray) : Bool := l.any (fun r => isNo r.op && decide (r.key = k))
def inL (l : List Req) (k v : ByteArray) : Bool := l.all (fun r => !(isIn r.op && decide (r.key = k)) || hasV r.vals v)
def ninL (l : List Req) (k v : ByteArray) : Bool := l.any (fun r => (isNotin r.op && decide (r.key = k)) && hasV r.vals v)
def mentL (l : List Req) (k : ByteArray) : Bool := l.any (fun r => decide (r.key = k))

theorem seenIn_eq (l : List Req) (k : ByteArray) : seenIn l k = presL l k := by
  unfold seenIn presL
  congr 1
  funext r
  rw [beq_toList]

structure Inv (l : List Req) (S : St) : Prop where
  keys : ∀ k, among k S.keys = mentL l k
  nodup : S.keys.Nodup
  pres : ∀ k, S.pres k = presL l k
  absn : ∀ k, S.absn k = absL l k
  inn : ∀ k v, inM (S.inn k) v = inL l k v
  nin : ∀ k v, ninM (S.nin k) v = ninL l k v
  reqd : ∀ k, among k S.reqd = presL l k
  rnod : S.reqd.Nodup

theorem among_snoc (k x : ByteArray) (l : List ByteArray) : among k (l ++ [x]) = (among k l || decide (x = k)) := by simp [among]
theorem not_among {k : ByteArray} {l : List ByteArray} (h : among k l = false) : k ∉ l := fun e => by rw [among_iff.2 e] at h; cases h
theorem nodup_snoc {l : List ByteArray} {x : ByteArray} (h : l.Nodup) (hx : x ∉ l) : (l ++ [x]).Nodup := by
  rw [List.nodup_append]
  exact ⟨h, by simp, fun a ha b hb e => by simp at hb; rw [hb] at e; exact hx (e ▸ ha)⟩

theorem presL_snoc (l : List Req) (r : Req) (k : ByteArray) : presL (l ++ [r]) k = (presL l k || (dem r.op && decide (r.key = k))) := by simp [presL]
theorem absL_snoc (l : List Req) (r : Req) (k : ByteArray) : absL (l ++ [r]) k = (absL l k || (isNo r.op && decide (r.key = k))) := by simp [absL]
theorem inL_snoc (l : List Req) (r : Req) (k v : ByteArray) : inL (l ++ [r]) k v = (inL l k v && (!(isIn r.op && decide (r.key = k)) || hasV r.vals v)) := by simp [inL]
theorem ninL_snoc (l : List Req) (r : Req) (k v : ByteArray) : ninL (l ++ [r]) k v = (ninL l k v || ((isNotin r.op && decide (r.key = k)) && hasV r.vals v)) := by simp [ninL]
theorem mentL_snoc (l : List Req) (r : Req) (k : ByteArray) : mentL (l ++ [r]) k = (mentL l k || decide (r.key = k)) := by simp [mentL]

theorem op_apart (op : ByteArray) : (isIn op = true → isNotin op = false ∧ isNo op = false) ∧ (isNotin op = true → isNo op = false) := by
  refine ⟨fun h => ?_, fun h => ?_⟩
  · have : op.toList = [105, 110] := eq_of_beq h
    simp [isNotin, isNo, this]
  · have : op.toList = [110, 111, 116, 105, 110] := eq_of_beq h
    simp [isNo, this]

/-- What 'add' makes of the state, field by field. -/
theorem named_fields (S : St) (k : ByteArray) : (S.named k).pres = S.pres ∧ (S.named k).absn = S.absn ∧ (S.named k).inn = S.inn ∧ (S.named k).nin = S.nin ∧ (S.named k).reqd = S.reqd := by
  unfold St.named; split <;> exact ⟨rfl, rfl, rfl, rfl, rfl⟩
theorem demand_fields (S : St) (k op : ByteArray) : (S.demand k op).keys = S.keys ∧ (S.demand k op).absn = S.absn ∧ (S.demand k op).inn = S.inn ∧ (S.demand k op).nin = S.nin := by
  unfold St.demand; split <;> exact ⟨rfl, rfl, rfl, rfl⟩
theorem sets_fields (S : St) (k op : ByteArray) (vs : List ByteArray) : (S.sets k op vs).keys = S.keys ∧ (S.sets k op vs).pres = S.pres ∧ (S.sets k op vs).reqd = S.reqd := by
  unfold St.sets; split
  · exact ⟨rfl, rfl, rfl⟩
  · split
    · exact ⟨rfl, rfl, rfl⟩
    · split <;> exact ⟨rfl, rfl, rfl⟩

theorem add_keys (S : St) (r : Req) : (S.add r).keys = (S.named r.key).keys := by
  unfold St.add; rw [(sets_fields _ _ _ _).1, (demand_fields _ _ _).1]
theorem add_pres (S : St) (r : Req) (k : ByteArray) : (S.add r).pres k = (S.pres k || (dem r.op && decide (r.key = k))) := by
  unfold St.add
  rw [(sets_fields _ _ _ _).2.1]
  have hn := named_fields S r.key
  unfold St.demand
  rw [hn.1]
  by_cases hk : k = r.key
  · subst hk
    cases hp : S.pres r.key <;> cases hd : dem r.op <;> simp [St.setPres, St.req, upd_same, hn.1, hp]
  · have hk' : ¬ r.key = k := fun e => hk e.symm
    split
    · simp [St.setPres, St.req, upd_other _ _ _ hk, hn.1, hk']
    · rw [hn.1]; simp [hk']
theorem add_reqd (S : St) (r : Req) : (S.add r).reqd = if (dem r.op && !S.pres r.key) = true then S.reqd ++ [r.key] else S.reqd := by
  unfold St.add
  rw [(sets_fields _ _ _ _).2.2]
  have hn := named_fields S r.key
  unfold St.demand
  rw [hn.1, Bool.and_comm]
  split
  · simp [St.setPres, St.req, hn.2.2.2.2]
  · exact hn.2.2.2.2
theorem add_absn (S : St) (r : Req) (k : ByteArray) : (S.add r).absn k = (S.absn k || (isNo r.op && decide (r.key = k))) := by
  unfold St.add
  have hn := named_fields S r.key
  have hd := demand_fields (S.named r.key) r.key r.op
  have ho := op_apart r.op
  unfold St.sets
  split
  · rename_i h; simp [St.setIn, hd.2.1, hn.2.1, (ho.1 h).2]
  · split
    · rename_i h; simp [St.setNin, hd.2.1, hn.2.1, ho.2 h]
    · split
      · rename_i h
        by_cases hk : k = r.key
        · subst hk; simp [St.setAbs, St.room, upd_same, h]
        · have hk' : ¬ r.key = k := fun e => hk e.symm
          simp [St.setAbs, St.room, upd_other _ _ _ hk, hd.2.1, hn.2.1, hk']
      · rename_i h; simp [St.room, hd.2.1, hn.2.1, h]
theorem add_inn (S : St) (r : Req) (k v : ByteArray) : inM ((S.add r).inn k) v = (inM (S.inn k) v && (!(isIn r.op && decide (r.key = k)) || hasV r.vals v)) := by
  unfold St.add
  have hn := named_fields S r.key
  have hd := demand_fields (S.named r.key) r.key r.op
  unfold St.sets
  split
  · rename_i h
    by_cases hk : k = r.key
    · subst hk; simp [St.setIn, upd_same, hd.2.2.1, hn.2.2.1, inM, h, Bool.and_comm]
    · have hk' : ¬ r.key = k := fun e => hk e.symm
      simp [St.setIn, upd_other _ _ _ hk, hd.2.2.1, hn.2.2.1, hk']
  · rename_i h
    have h' : isIn r.op = false := by simpa using h
    split
    · simp [St.setNin, hd.2.2.1, hn.2.2.1, h']
    · split <;> simp [St.setAbs, St.room, hd.2.2.1, hn.2.2.1, h']
theorem add_nin (S : St) (r : Req) (k v : ByteArray) : ninM ((S.add r).nin k) v = (ninM (S.nin k) v || ((isNotin r.op && decide (r.key = k)) && hasV r.vals v)) := by
  unfold St.add
  have hn := named_fields S r.key
  have hd := demand_fields (S.named r.key) r.key r.op
  have ho := op_apart r.op
  unfold St.sets
  split
  · rename_i h; simp [St.setIn, hd.2.2.2, hn.2.2.2.1, (ho.1 h).1]
  · split
    · rename_i h
      by_cases hk : k = r.key
      · subst hk; simp [St.setNin, upd_same, hd.2.2.2, hn.2.2.2.1, ninM, h]
      · have hk' : ¬ r.key = k := fun e => hk e.symm
        simp [St.setNin, upd_other _ _ _ hk, hd.2.2.2, hn.2.2.2.1, hk']
    · rename_i h
      have h' : isNotin r.op = false := by simpa using h
      split <;> simp [St.setAbs, St.room, hd.2.2.2, hn.2.2.2.1, h']

theorem Inv.add {l : List Req} {S : St} (h : Inv l S) (r : Req) : Inv (l ++ [r]) (S.add r) where
  keys := fun k => by
    rw [add_keys, mentL_snoc, ← h.keys]
    unfold St.named
    split
    · rename_i hm
      by_cases hk : r.key = k
      · subst hk; simp [hm]
      · simp [hk]
    · show among k (S.keys ++ [r.key]) = _
      rw [among_snoc]
  nodup := by
    rw [add_keys]
    unfold St.named
    split
    · exact h.nodup
    · rename_i hm
      exact nodup_snoc h.nodup (not_among (by simpa using hm))
  pres := fun k => by rw [add_pres, presL_snoc, h.pres]
  absn := fun k => by rw [add_absn, absL_snoc, h.absn]
  inn := fun k v => by rw [add_inn, inL_snoc, h.inn]
  nin := fun k v => by rw [add_nin, ninL_snoc, h.nin]
  reqd := fun k => by
    rw [add_reqd, presL_snoc, ← h.reqd]
    split
    · rename_i hd
      rw [among_snoc]
      have : dem r.op = true := by simp at hd; exact hd.1
      rw [this, Bool.true_and]
    · rename_i hd
      by_cases hk : r.key = k
      · subst hk
        cases hdm : dem r.op
        · simp
        · have hp : S.pres r.key = true := by rw [hdm] at hd; simpa using hd
          rw [h.reqd, ← h.pres, hp]; rfl
      · simp [hk]
  rnod := by
    rw [add_reqd]
    split
    · rename_i hd
      refine nodup_snoc h.rnod (not_among ?_)
      rw [h.reqd, ← h.pres]
      simp at hd; exact hd.2
    · exact h.rnod

theorem inv_init : Inv [] St.init where
  keys := fun _ => rfl
  nodup := List.nodup_nil
  pres := fun _ => rfl
  absn := fun _ => rfl
  inn := fun _ _ => rfl
  nin := fun _ _ => rfl
  reqd := fun _ => rfl
  rnod := List.nodup_nil

theorem Inv.addAll {l : List Req} {S : St} (h : Inv l S) (l2 : List Req) : Inv (l ++ l2) (addAll S l2) := by
  induction l2 generalizing l S with
  | nil => simpa [Qxb6617295a.addAll] using h
  | cons r l2 ih =>
    have := ih (h.add r)
    rw [List.append_assoc] at this
    exact this
theorem inv_all (l : List Req) : Inv l (addAll St.init l) := by simpa using inv_init.addAll l

/-- How the required keys grow. -/
theorem reqd_snoc (l : List Req) (r : Req) : (addAll St.init (l ++ [r])).reqd = if (dem r.op && !seenIn l r.key) = true then (addAll St.init l).reqd ++ [r.key] else (addAll St.init l).reqd := by
  rw [addAll_snoc, add_reqd, (inv_all l).pres, seenIn_eq]

end Go.Proofs.Qxb6617295a
