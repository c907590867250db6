/- Frames as functions from slots to values, operations run in them. A part of the proofs of FnExactDegree and FnExactCoefficient. -/
import Derived.Test.YtgikfcmcgpcckaaGreatDoorSl
namespace Go.Proofs.YtgikfcmcgpcckaaGreatDoor.Sl
open Go

abbrev Env := Nat → Value
def upd (e : Env) (d : Nat) (v : Value) : Env := fun t => bif Nat.beq t d then v else e t
def fr (n : Nat) (e : Env) : Act := { tmps := ((List.range n).map e).toArray, defers := [] }
def opv (n : Nat) (e : Env) : Operand → Value
  | .tmp t => bif Nat.blt t n then e t else undef
  | .const v => v
  | .global g => .pointer (some ⟨g, 0, none⟩)
  | .func f => .func (.func f) #[] #[]

theorem eval_fr (n : Nat) (e : Env) : (fr n e).eval = opv n e := by
  funext x
  cases x with
  | tmp t =>
    simp only [Act.eval, fr, opv]
    by_cases h : t < n
    · have hb : Nat.blt t n = true := by simpa using h
      simp [h, hb]
    · have hb : Nat.blt t n = false := by rw [← Bool.not_eq_true, Nat.blt_eq]; exact h
      simp [h, hb]
  | _ => rfl

theorem put_fr (n : Nat) (e : Env) (d : Nat) (v : Value) : (fr n e).put (some d) v = fr n (upd e d v) := by
  unfold Act.put fr
  simp only [Act.mk.injEq, and_true]
  apply Array.ext
  · simp
  · intro i h1 h2
    have hi : i < n := by simpa using h2
    simp only [List.getElem_toArray, List.getElem_map, List.getElem_range]
    unfold upd
    by_cases hd : d = i
    · subst hd
      simp
    · have : Nat.beq i d = false := Bool.eq_false_iff.2 fun e => hd (Nat.eq_of_beq_eq_true e).symm
      simp [this, hd]

theorem put_none (a : Act) (v : Value) : a.put none v = a := rfl

theorem yielded_fr {n : Nat} {e : Env} {ops : Array Oper} {j t : Nat} {b : Bool} (hj : (ops[j]?).bind (·.dst) = some t) (hv : opv n e (.tmp t) = .bool b) :
    yielded ops (fr n e).tmps j = some b := by
  unfold yielded
  rw [hj]
  have ht : t < n := by
    rcases Nat.lt_or_ge t n with h | h
    · exact h
    · have hb : Nat.blt t n = false := by rw [← Bool.not_eq_true, Nat.blt_eq]; omega
      simp only [opv, hb, cond_false] at hv
      cases hv
  have hb : Nat.blt t n = true := by simpa using ht
  simp only [opv, hb, cond_true] at hv
  simp [fr, ht, hv]

/-- The operation yields v and leaves the world alone. -/
def Ev (P : Program) (ρ : Operand → Value) (op : Op) (ty : TypeId) (w : World) (v : Value) : Prop :=
  (execOp ρ { dst := none, op := op, type := ty, pos := "", after := #[], guard := none }).run P w = .ok (.value v) w

theorem exec_same (ρ : Operand → Value) (d : Option Tmp) (op : Op) (ty : TypeId) (pos : String) (af : Array Edge) (g : Option (Nat × Bool)) :
    execOp ρ { dst := d, op := op, type := ty, pos := pos, after := af, guard := g } = execOp ρ { dst := none, op := op, type := ty, pos := "", after := #[], guard := none } := rfl

section
variable {P : Program} {l : List Oper} {Q : Exit → Act → World → Prop} {n : Nat} {e : Env} {w : World} {rest : List Oper} {d : Nat} {op : Op} {ty : TypeId} {pos : String} {af : Array Edge} {v : Value}

theorem s_nil (h : Q .normal (fr n e) w) : wpList P l.toArray Q [] (fr n e) w := h

theorem s_val (h : Ev P (opv n e) op ty w v) (k : wpList P l.toArray Q rest (fr n (upd e d v)) w) :
    wpList P l.toArray Q ({ dst := some d, op := op, type := ty, pos := pos, after := af, guard := none } :: rest) (fr n e) w := by
  refine wpList_plain rfl fun K hK => ?_
  unfold Oper.wp
  rw [eval_fr, exec_same, h]
  simp only [Oper.upon_value]
  rw [put_fr]
  exact hK _ _ k

/-- A guarded operation that is wanted. -/
theorem s_valg {j t : Nat} {b : Bool} (hj : ((l[j]?).bind fun o => o.dst) = some t) (hv : opv n e (.tmp t) = .bool b) (h : Ev P (opv n e) op ty w v) (k : wpList P l.toArray Q rest (fr n (upd e d v)) w) :
    wpList P l.toArray Q ({ dst := some d, op := op, type := ty, pos := pos, after := af, guard := some (j, b) } :: rest) (fr n e) w := by
  refine wpList_step fun K hK => ?_
  have hw : Region.wanted { dst := some d, op := op, type := ty, pos := pos, after := af, guard := some (j, b) } (yielded l.toArray (fr n e).tmps) = true := by
    simp only [Region.wanted]
    rw [yielded_fr (t := t) (b := b) (by simpa using hj) hv]
    simp
  rw [if_pos hw]
  unfold Oper.wp
  rw [eval_fr, exec_same, h]
  simp only [Oper.upon_value]
  rw [put_fr]
  exact hK _ _ k

/-- A guarded operation that is passed over. -/
theorem s_skip {j t : Nat} {b c : Bool} (hj : ((l[j]?).bind fun o => o.dst) = some t) (hv : opv n e (.tmp t) = .bool c) (hc : (!c) = b) (k : wpList P l.toArray Q rest (fr n (upd e d undef)) w) :
    wpList P l.toArray Q ({ dst := some d, op := op, type := ty, pos := pos, after := af, guard := some (j, b) } :: rest) (fr n e) w := by
  refine wpList_step fun K hK => ?_
  have hw : Region.wanted { dst := some d, op := op, type := ty, pos := pos, after := af, guard := some (j, b) } (yielded l.toArray (fr n e).tmps) = false := by
    simp only [Region.wanted]
    rw [yielded_fr (t := t) (b := c) (by simpa using hj) hv]
    subst hc
    cases c <;> rfl
  rw [hw]
  simp only [Bool.false_eq_true, if_false]
  rw [put_fr]
  exact hK _ _ k
end

end Go.Proofs.YtgikfcmcgpcckaaGreatDoor.Sl
