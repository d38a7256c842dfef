/-
  THE PLAIN FUNCTIONS: what a requirement means; what the selector's state becomes. No Go in this text.
-/
import Derived.Test.Qxb6617295aSteps
namespace Go.Proofs.Qxb6617295a

def isIn (op : ByteArray) : Bool := op.toList == [105, 110]
def isNotin (op : ByteArray) : Bool := op.toList == [110, 111, 116, 105, 110]
def isEx (op : ByteArray) : Bool := op.toList == [101, 120, 105, 115, 116, 115]
def isNo (op : ByteArray) : Bool := op.toList == [33]
def dem (op : ByteArray) : Bool := isIn op || isEx op

def hasV (vs : List ByteArray) (v : ByteArray) : Bool := vs.any (fun x => x.toList == v.toList)
theorem hasV_take {vs : List ByteArray} {j : Nat} {x : ByteArray} (hx : vs[j]? = some x) (v : ByteArray) : hasV (vs.take (j + 1)) v = (hasV (vs.take j) v || (x.toList == v.toList)) := by
  unfold hasV
  rw [List.take_add_one, hx]
  simp [List.any_append]
theorem hasV_of {vs : List ByteArray} {j : Nat} {x : ByteArray} (hx : vs[j]? = some x) {v : ByteArray} (h : (x.toList == v.toList) = true) : hasV vs v = true :=
  List.any_eq_true.2 ⟨x, List.mem_of_getElem? hx, h⟩
theorem hasV_all {vs : List ByteArray} {j : Nat} (hj : ¬ j < vs.length) (v : ByteArray) : hasV (vs.take j) v = hasV vs v := by
  rw [List.take_of_length_le (by omega)]
theorem hasV_zero (vs : List ByteArray) (v : ByteArray) : hasV (vs.take 0) v = false := rfl

/-- One requirement taken alone. -/
def reqHolds (op : ByteArray) (vs : List ByteArray) (v : ByteArray) (p : Bool) : Bool :=
  if isIn op then p && hasV vs v else if isNotin op then !p || !hasV vs v else if isEx op then p else if isNo op then !p else true

/-- The state behind 'sel.add(key, op, values)'. -/
def among (k : ByteArray) (l : List ByteArray) : Bool := l.any (fun x => decide (x = k))
theorem among_iff {k : ByteArray} {l : List ByteArray} : among k l = true ↔ k ∈ l := by
  simp [among, List.any_eq_true]
def St.named (S : St) (k : ByteArray) : St := if among k S.keys then S else S.mention k
def St.demand (S : St) (k op : ByteArray) : St := if (!S.pres k && dem op) = true then (S.setPres k).req k else S
def inM (o : Option (ByteArray → Bool)) (v : ByteArray) : Bool := match o with | none => true | some f => f v
def ninM (o : Option (ByteArray → Bool)) (v : ByteArray) : Bool := match o with | none => false | some f => f v
def St.sets (S : St) (k op : ByteArray) (vs : List ByteArray) : St :=
  if isIn op then S.setIn k (fun v => hasV vs v && inM (S.inn k) v) vs.length
  else if isNotin op then S.setNin k (fun v => ninM (S.nin k) v || hasV vs v) vs.length
  else if isNo op then (S.setAbs k).room vs.length else S.room vs.length
def St.add (S : St) (r : Req) : St := ((S.named r.key).demand r.key r.op).sets r.key r.op r.vals
def St.init : St := { keys := [], pres := fun _ => false, absn := fun _ => false, inn := fun _ => none, nin := fun _ => none, reqd := [], nmax := 0 }

/-! ### how the bool maps grow in a round -/
theorem in_yes {Di : DataW Unit} {vs : List ByteArray} {j : Nat} {x : ByteArray} {m : ByteArray → Bool} (hm : Maps.IsMap Di) (h : ∀ v, Di.atKey (klit v) (.lit (.bool false)) = .lit (.bool (hasV (vs.take j) v && m v))) (hx : vs[j]? = some x) (hmx : m x = true) :
    ∀ v, (Di.put (klit x) (.lit (.bool true))).atKey (klit v) (.lit (.bool false)) = .lit (.bool (hasV (vs.take (j + 1)) v && m v)) := by
  intro v
  rw [hasV_take hx]
  by_cases hv : v = x
  · subst hv; rw [Maps.atKey_put_same hm (klit_key _)]; simp [hmx]
  · have hb : (x.toList == v.toList) = false := by
      cases hb : (x.toList == v.toList)
      · rfl
      · exact absurd (toList_iff.1 (eq_of_beq hb)).symm hv
    rw [Maps.atKey_put_other (fun e => hv (klit_inj e)), h, hb, Bool.or_false]
theorem in_no {Di : DataW Unit} {vs : List ByteArray} {j : Nat} {x : ByteArray} {m : ByteArray → Bool} (h : ∀ v, Di.atKey (klit v) (.lit (.bool false)) = .lit (.bool (hasV (vs.take j) v && m v))) (hx : vs[j]? = some x) (hmx : m x = false) :
    ∀ v, Di.atKey (klit v) (.lit (.bool false)) = .lit (.bool (hasV (vs.take (j + 1)) v && m v)) := by
  intro v
  rw [hasV_take hx, h]
  by_cases hv : v = x
  · subst hv; simp [hmx]
  · have hb : (x.toList == v.toList) = false := by
      cases hb : (x.toList == v.toList)
      · rfl
      · exact absurd (toList_iff.1 (eq_of_beq hb)).symm hv
    rw [hb, Bool.or_false]

end Go.Proofs.Qxb6617295a
