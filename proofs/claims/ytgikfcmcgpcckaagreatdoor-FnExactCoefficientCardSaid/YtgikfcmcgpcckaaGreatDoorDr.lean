/- Operations with effects, and regions that draw their order. A part of the proofs of FnExactDegree and FnExactCoefficient. -/
import Derived.Test.YtgikfcmcgpcckaaGreatDoorCd
import Derived.OrdersHeld
namespace Go.Proofs.YtgikfcmcgpcckaaGreatDoor.Sl
open Go

/-- The operation, run in this frame and world, comes to a value and a world as R tells. -/
structure Does (P : Program) (n : Nat) (e : Env) (op : Op) (ty : TypeId) (w : World) (R : Value → World → Prop) : Prop where
  run : ∀ (dst : Option Tmp) (pos : String) (af : Array Edge) (g : Option (Nat × Bool)) (K : Act → World → Prop) (Q : Exit → Act → World → Prop), (∀ v w', R v w' → K ((fr n e).put dst v) w') →
    Oper.wp P { dst := dst, op := op, type := ty, pos := pos, after := af, guard := g } (fr n e) w K Q

theorem Does.mono {P : Program} {n : Nat} {e : Env} {op : Op} {ty : TypeId} {w : World} {R R' : Value → World → Prop} (h : Does P n e op ty w R) (hr : ∀ v w', R v w' → R' v w') : Does P n e op ty w R' :=
  ⟨fun dst pos af g K Q k => h.run dst pos af g K Q fun v w' r => k v w' (hr v w' r)⟩

section
variable {P : Program} {l : List Oper} {Q : Exit → Act → World → Prop} {n : Nat} {e : Env} {w : World} {rest : List Oper} {d : Nat} {op : Op} {ty : TypeId} {pos : String} {af : Array Edge} {v : Value} {R : Value → World → Prop}

theorem d_run {w' : World} (hr : (execOp (opv n e) { dst := none, op := op, type := ty, pos := "", after := #[], guard := none }).run P w = .ok (.value v) w') : Does P n e op ty w fun v2 w2 => v2 = v ∧ w2 = w' := by
  refine ⟨fun dst pos af g K Q k => ?_⟩
  unfold Oper.wp
  rw [eval_fr, exec_same, hr]
  exact k v w' ⟨rfl, rfl⟩
theorem d_skip {w' : World} (hr : (execOp (opv n e) { dst := none, op := op, type := ty, pos := "", after := #[], guard := none }).run P w = .ok .skip w') : Does P n e op ty w fun v2 w2 => v2 = undef ∧ w2 = w' := by
  refine ⟨fun dst pos af g K Q k => ?_⟩
  unfold Oper.wp
  rw [eval_fr, exec_same, hr]
  exact k undef w' ⟨rfl, rfl⟩

theorem d_call {f g : FuncId} {as : List Operand} {ts : Array TypeId}
    (hc : ∀ (A : Array Value) (w : World), (callFunc f A).run P w = .ok (.enter g A) w)
    (h : Calls P g ((as.map (opv n e)).toArray) w fun e' w' => ∃ v, e' = .returned v ∧ R v w') :
    Does P n e (.call { callee := .value (.func f), args := as.toArray, argTypes := ts }) ty w R := by
  refine ⟨fun dst pos af g0 K Q k => ?_⟩
  unfold Oper.wp
  rw [eval_fr, exec_same]
  have hrun : (execOp (opv n e) { dst := none, op := .call { callee := .value (.func f), args := as.toArray, argTypes := ts }, type := ty, pos := "", after := #[], guard := none }).run P w = .ok (.enter g ((as.map (opv n e)).toArray)) w := by
    simp [execOp, resolve, Deferred.ofValue, opv, go_sem, invoke, hc]
  rw [hrun]
  simp only [Oper.upon_enter]
  refine h.mono fun e' w' ⟨v, he, hR⟩ => ?_
  subst he
  exact k v w' hR

theorem d_invoke {f : FuncId} {x : Operand} {nm : String} {as : List Operand} {ts : Array TypeId} {A : Array Value}
    (hm : (callMethod (opv n e x) nm ((as.map (opv n e)).toArray)).run P w = .ok (.enter f A) w)
    (h : Calls P f A w fun e' w' => ∃ v, e' = .returned v ∧ R v w') :
    Does P n e (.call { callee := .invoke x nm, args := as.toArray, argTypes := ts }) ty w R := by
  refine ⟨fun dst pos af g0 K Q k => ?_⟩
  unfold Oper.wp
  rw [eval_fr, exec_same]
  have hrun : (execOp (opv n e) { dst := none, op := .call { callee := .invoke x nm, args := as.toArray, argTypes := ts }, type := ty, pos := "", after := #[], guard := none }).run P w = .ok (.enter f A) w := by
    have h1 : (#[opv n e x] ++ (as.map (opv n e)).toArray).extract 1 (#[opv n e x] ++ (as.map (opv n e)).toArray).size = (as.map (opv n e)).toArray := by simp [List.take_of_length_le]
    show (invoke (.fn (.method nm) #[]) (#[opv n e x] ++ as.toArray.map (opv n e))).run P w = _
    unfold invoke
    have h0 : (#[opv n e x] ++ (as.map (opv n e)).toArray)[0]? = some (opv n e x) := by simp
    simp only [List.map_toArray, h0, h1]
    exact hm
  rw [hrun]
  simp only [Oper.upon_enter]
  refine h.mono fun e' w' ⟨v, he, hR⟩ => ?_
  subst he
  exact k v w' hR

/-! ### In a region of fixed order -/
theorem s_eff (h : Does P n e op ty w R) (k : ∀ v w', R v w' → wpList P l.toArray Q rest (fr n (upd e d v)) w') :
    wpList P l.toArray Q ({ dst := some d, op := op, type := ty, pos := pos, after := af, guard := none } :: rest) (fr n e) w := by
  refine wpList_plain rfl fun K hK => h.run _ _ _ _ _ _ fun v w' r => ?_
  rw [put_fr]
  exact hK _ _ (k v w' r)
theorem s_eff0 (h : Does P n e op ty w R) (k : ∀ v w', R v w' → wpList P l.toArray Q rest (fr n e) w') :
    wpList P l.toArray Q ({ dst := none, op := op, type := ty, pos := pos, after := af, guard := none } :: rest) (fr n e) w := by
  refine wpList_plain rfl fun K hK => h.run _ _ _ _ _ _ fun v w' r => ?_
  exact hK _ _ (k v w' r)
theorem s_effg {j t : Nat} {b : Bool} (hj : ((l[j]?).bind fun o => o.dst) = some t) (hv : opv n e (.tmp t) = .bool b) (h : Does P n e op ty w R) (k : ∀ v w', R v w' → wpList P l.toArray Q rest (fr n (upd e d v)) w') :
    wpList P l.toArray Q ({ dst := some d, op := op, type := ty, pos := pos, after := af, guard := some (j, b) } :: rest) (fr n e) w := by
  refine wpList_step fun K hK => ?_
  have hw : Region.wanted { dst := some d, op := op, type := ty, pos := pos, after := af, guard := some (j, b) } (yielded l.toArray (fr n e).tmps) = true := by
    simp only [Region.wanted]
    rw [yielded_fr (t := t) (b := b) (by simpa using hj) hv]
    simp
  rw [if_pos hw]
  refine h.run _ _ _ _ _ _ fun v w' r => ?_
  rw [put_fr]
  exact hK _ _ (k v w' r)
end

/-! ### A region that draws its order -/
section
variable {P : Program} {ops : Array Oper} {Q : Exit → Act → World → Prop} {md : Region.Mode} {S : World → Prop} {bar : Nat}

/-- Whatever order is picked; S holds behind every operation till the bar is carried out. -/
def wpAnyB (P : Program) (md : Region.Mode) (ops : Array Oper) (Q : Exit → Act → World → Prop) (S : World → Prop) (bar : Nat) : Nat → Array Bool → Act → World → Prop
  | 0, listed, a, w => Region.ready md ops listed = [] ∧ Q .normal a w
  | fuel + 1, listed, a, w =>
    (Region.ready md ops listed = [] → Q .normal a w) ∧
    ∀ i ∈ Region.ready md ops listed, wpOp P ops Q i (fun a' w' => (i = bar → wpAny P md ops Q fuel (listed.setIfInBounds i true) a' w') ∧ (i ≠ bar → S w' ∧ wpAnyB P md ops Q S bar fuel (listed.setIfInBounds i true) a' w')) a w

theorem wpAny_of_B : ∀ (fuel : Nat) (listed : Array Bool) (a : Act) (w : World), wpAnyB P md ops Q S bar fuel listed a w → wpAny P md ops Q fuel listed a w
  | 0, _, _, _, h => h
  | fuel + 1, _, _, _, h => ⟨h.1, fun i hi => wpOp_mono (fun a' w' h' => by
      by_cases hb : i = bar
      · exact h'.1 hb
      · exact wpAny_of_B fuel _ a' w' (h'.2 hb).2) (h.2 i hi)⟩

/-- The bar waits for i. -/
def barB (md : Region.Mode) (ops : Array Oper) (bar i : Nat) : Bool :=
  !Nat.beq i bar && match ops[bar]? with
  | none => true
  | some o => o.after.any fun e => Region.binds md e && Nat.beq e.on i

theorem wpAnyB_first {i : Nat} {oi : Oper} {v : Value} (hi : ops[i]? = some oi) (hsel : ∀ (j : Nat) (o : Oper) cs b, ops[j]? = some o → o.op ≠ .select cs b)
    (hQ : ∀ c a w, Q (.panic c) (a.put oi.dst v) w → Q (.panic c) a w) (hbar : barB md ops bar i = true) :
    ∀ (fuel : Nat) (listed : Array Bool) (a : Act) (w : World),
      (∀ j oj, ops[j]? = some oj → j ≠ i → listed.getD j true = false → (∀ e ∈ oj.after, Region.binds md e = true → e.on ≠ i) → oi.apart ops oj = true) →
      i ∈ Region.ready md ops listed → YieldsIf P ops S oi v a → S w →
      wpAnyB P md ops Q S bar fuel (listed.setIfInBounds i true) (a.put oi.dst v) w → wpAnyB P md ops Q S bar (fuel + 1) listed a w := by
  unfold barB at hbar
  simp only [Bool.and_eq_true, Bool.not_eq_true'] at hbar
  have hne : i ≠ bar := fun e => by rw [e] at hbar; simp at hbar
  intro fuel
  induction fuel with
  | zero =>
    intro listed a w _ hr hy hS H
    refine ⟨fun h => (by rw [h] at hr; cases hr), fun j hj => ?_⟩
    by_cases hji : j = i
    · subst hji; exact hy.wpOp hi hS ⟨fun e => absurd e hne, fun _ => ⟨hS, H⟩⟩
    · have := ready_mono hj hji
      rw [H.1] at this
      cases this
  | succ fuel ih =>
    intro listed a w hfree hr hy hS H
    refine ⟨fun h => (by rw [h] at hr; cases hr), fun j hj => ?_⟩
    by_cases hji : j = i
    · subst hji; exact hy.wpOp hi hS ⟨fun e => absurd e hne, fun _ => ⟨hS, H⟩⟩
    · have h1 := H.2 j (ready_mono hj hji)
      obtain ⟨hjun, oj, hoj, hall⟩ := mem_ready.1 hj
      have hnot : ∀ e ∈ oj.after, Region.binds md e = true → e.on ≠ i := fun e he hb heq => by
        have h1 := hall e he hb
        have h0 := (mem_ready.1 hr).1
        rw [heq] at h1
        rcases Nat.lt_or_ge i listed.size with h' | h'
        · simp [h'] at h0 h1; rw [h0] at h1; cases h1
        · simp [Array.getElem?_eq_none h'] at h1
      have hjb : j ≠ bar := fun e => by
        subst e
        have h2 := hbar.2
        rw [hoj] at h2
        obtain ⟨ed, hed, hb⟩ := Array.any_eq_true'.1 h2
        simp only [Bool.and_eq_true] at hb
        exact hnot ed hed hb.1 (Nat.eq_of_beq_eq_true hb.2)
      have h2 := wpOp_putIf hoj (hfree j oj hoj hji hjun hnot) (fun cs b => hsel i oi cs b hi) (fun cs b => hsel j oj cs b hoj) hQ hy h1
      have hfree' : ∀ k ok, ops[k]? = some ok → k ≠ i → (listed.setIfInBounds j true).getD k true = false →
          (∀ e ∈ ok.after, Region.binds md e = true → e.on ≠ i) → oi.apart ops ok = true := fun k ok hk hki hun hno => by
        refine hfree k ok hk hki ?_ hno
        by_cases hjk : j = k
        · subst hjk; exact hjun
        · rw [getD_set_ne true hjk] at hun; exact hun
      refine wpOp_mono (fun a' w' h3 => ⟨fun e => absurd e hjb, fun _ => ⟨(h3.2.2 hjb).1, ih (listed.setIfInBounds j true) a' w' hfree' (ready_mono hr (Ne.symm hji)) h3.1 (h3.2.2 hjb).1 ?_⟩⟩) h2
      rw [Array.setIfInBounds_comm _ _ hji]
      exact (h3.2.2 hjb).2
/-- An operation that looks at no memory may be taken first, whether or not the bar waits for it. -/
theorem wpAnyB_still {i : Nat} {oi : Oper} {v : Value} (hi : ops[i]? = some oi) (hsel : ∀ (j : Nat) (o : Oper) cs b, ops[j]? = some o → o.op ≠ .select cs b)
    (hQ : ∀ c a w, Q (.panic c) (a.put oi.dst v) w → Q (.panic c) a w) (hne : i ≠ bar) :
    ∀ (fuel : Nat) (listed : Array Bool) (a : Act) (w : World),
      (∀ j oj, ops[j]? = some oj → j ≠ i → listed.getD j true = false → (∀ e ∈ oj.after, Region.binds md e = true → e.on ≠ i) → oi.apart ops oj = true) →
      i ∈ Region.ready md ops listed → Yields P ops oi v a → S w →
      wpAnyB P md ops Q S bar fuel (listed.setIfInBounds i true) (a.put oi.dst v) w → wpAnyB P md ops Q S bar (fuel + 1) listed a w := by
  intro fuel
  induction fuel with
  | zero =>
    intro listed a w _ hr hy hS H
    refine ⟨fun h => (by rw [h] at hr; cases hr), fun j hj => ?_⟩
    by_cases hji : j = i
    · subst hji; exact hy.wpOp hi ⟨fun e => absurd e hne, fun _ => ⟨hS, H⟩⟩
    · have := ready_mono hj hji
      rw [H.1] at this
      cases this
  | succ fuel ih =>
    intro listed a w hfree hr hy hS H
    refine ⟨fun h => (by rw [h] at hr; cases hr), fun j hj => ?_⟩
    by_cases hji : j = i
    · subst hji; exact hy.wpOp hi ⟨fun e => absurd e hne, fun _ => ⟨hS, H⟩⟩
    · have h1 := H.2 j (ready_mono hj hji)
      obtain ⟨hjun, oj, hoj, hall⟩ := mem_ready.1 hj
      have hnot : ∀ e ∈ oj.after, Region.binds md e = true → e.on ≠ i := fun e he hb heq => by
        have h1 := hall e he hb
        have h0 := (mem_ready.1 hr).1
        rw [heq] at h1
        rcases Nat.lt_or_ge i listed.size with h' | h'
        · simp [h'] at h0 h1; rw [h0] at h1; cases h1
        · simp [Array.getElem?_eq_none h'] at h1
      have h2 := wpOp_put hoj (hfree j oj hoj hji hjun hnot) (fun cs b => hsel i oi cs b hi) (fun cs b => hsel j oj cs b hoj) hQ hy h1
      have hfree' : ∀ k ok, ops[k]? = some ok → k ≠ i → (listed.setIfInBounds j true).getD k true = false →
          (∀ e ∈ ok.after, Region.binds md e = true → e.on ≠ i) → oi.apart ops ok = true := fun k ok hk hki hun hno => by
        refine hfree k ok hk hki ?_ hno
        by_cases hjk : j = k
        · subst hjk; exact hjun
        · rw [getD_set_ne true hjk] at hun; exact hun
      refine wpOp_mono (fun a' w' h3 => ?_) h2
      by_cases hjb : j = bar
      · refine ⟨fun _ => ?_, fun e => absurd hjb e⟩
        refine wpAny_first hi hsel hQ fuel (listed.setIfInBounds j true) a' w' hfree' (ready_mono hr (Ne.symm hji)) h3.1 ?_
        rw [Array.setIfInBounds_comm _ _ hji]
        exact h3.2.1 hjb
      · refine ⟨fun e => absurd e hjb, fun _ => ⟨(h3.2.2 hjb).1, ih (listed.setIfInBounds j true) a' w' hfree' (ready_mono hr (Ne.symm hji)) h3.1 (h3.2.2 hjb).1 ?_⟩⟩
        rw [Array.setIfInBounds_comm _ _ hji]
        exact (h3.2.2 hjb).2
end

section
variable {P : Program} {l : List Oper} {R0 : Ending → World → Prop} {fn : Func} {Q : Exit → Act → World → Prop} {n : Nat} {e : Env} {w : World} {d i : Nat} {op : Op} {ty : TypeId} {pos : String} {af : Array Edge} {v : Value} {R : Value → World → Prop} {S : World → Prop} {bar fuel : Nat} {listed : Array Bool} {g : Option (Nat × Bool)}

/-- No panic is counted on: a panic hangs on the frame no more than anything. -/
def Calm (Q : Exit → Act → World → Prop) : Prop := ∀ c a a' w, Q (.panic c) a w → Q (.panic c) a' w

theorem calm_body : Calm (bodyPost P fn fun e' w' => ∃ v, e' = .returned v ∧ R v w') := fun c a a' w h => by
  obtain ⟨_, v, hv, _⟩ := h
  cases hv
theorem calm_then {K : Act → World → Prop} (h : Calm Q) : Calm (Exit.then K Q) := h
theorem calm_blk {id : Nat} (h : Calm Q) : Calm (Exit.inBlock id Q) := h

def takeB (l : List Oper) (bar : Nat) (listed : Array Bool) (i : Nat) : Bool :=
  Region.noSelect l.toArray && Region.free .any l.toArray listed i && (Region.ready .any l.toArray listed).contains i && barB .any l.toArray bar i

theorem b_begin {id : Nat} (hm : P.follows .mixedOrders = true) (S : World → Prop) (bar : Nat) (h : wpAnyB P .any l.toArray Q S bar l.toArray.size (Array.replicate l.toArray.size false) (fr n e) w.drew) :
    (Code.region id l.toArray true).wp P Q (fr n e) w := wp_region_any hm (wpAny_of_B _ _ _ _ h)
theorem b_again (S : World → Prop) (bar : Nat) (h : wpAnyB P .any l.toArray Q S bar fuel listed (fr n e) w) : wpAny P .any l.toArray Q fuel listed (fr n e) w := wpAny_of_B _ _ _ _ h

theorem b_take (hc : Calm Q) (hS : S w) (i : Nat) (hi : l[i]? = some { dst := some d, op := op, type := ty, pos := pos, after := af, guard := none }) (hB : takeB l bar listed i = true)
    (hy : ∀ w, S w → Ev P (opv n e) op ty w v)
    (h : wpAnyB P .any l.toArray Q S bar fuel (listed.setIfInBounds i true) (fr n (upd e d v)) w) : wpAnyB P .any l.toArray Q S bar (fuel + 1) listed (fr n e) w := by
  simp only [takeB, Bool.and_eq_true] at hB
  have hi' : l.toArray[i]? = some { dst := some d, op := op, type := ty, pos := pos, after := af, guard := none } := by simpa using hi
  refine wpAnyB_first hi' (Region.noSelect_spec hB.1.1.1) (fun c a w h => hc c _ _ w h) hB.2 fuel listed _ w (Region.free_spec hi' hB.1.1.2) (by simpa using hB.1.2) (.inl ⟨rfl, fun w hw => ?_⟩) hS (by rw [put_fr]; exact h)
  rw [eval_fr, exec_same]
  exact hy w hw
theorem b_takeg {j t : Nat} {b : Bool} (hc : Calm Q) (hS : S w) (i : Nat) (hi : l[i]? = some { dst := some d, op := op, type := ty, pos := pos, after := af, guard := some (j, b) }) (hB : takeB l bar listed i = true)
    (hj : ((l[j]?).bind fun o => o.dst) = some t) (hv : opv n e (.tmp t) = .bool b) (hy : ∀ w, S w → Ev P (opv n e) op ty w v)
    (h : wpAnyB P .any l.toArray Q S bar fuel (listed.setIfInBounds i true) (fr n (upd e d v)) w) : wpAnyB P .any l.toArray Q S bar (fuel + 1) listed (fr n e) w := by
  simp only [takeB, Bool.and_eq_true] at hB
  have hi' : l.toArray[i]? = some { dst := some d, op := op, type := ty, pos := pos, after := af, guard := some (j, b) } := by simpa using hi
  refine wpAnyB_first hi' (Region.noSelect_spec hB.1.1.1) (fun c a w h => hc c _ _ w h) hB.2 fuel listed _ w (Region.free_spec hi' hB.1.1.2) (by simpa using hB.1.2) (.inl ⟨?_, fun w hw => ?_⟩) hS (by rw [put_fr]; exact h)
  · simp only [Region.wanted]
    rw [yielded_fr (t := t) (b := b) (by simpa using hj) hv]
    simp
  · rw [eval_fr, exec_same]
    exact hy w hw
theorem b_skip {j t : Nat} {b c0 : Bool} (hc : Calm Q) (hS : S w) (i : Nat) (hi : l[i]? = some { dst := some d, op := op, type := ty, pos := pos, after := af, guard := some (j, b) }) (hB : takeB l bar listed i = true)
    (hj : ((l[j]?).bind fun o => o.dst) = some t) (hv : opv n e (.tmp t) = .bool c0) (hcb : (!c0) = b)
    (h : wpAnyB P .any l.toArray Q S bar fuel (listed.setIfInBounds i true) (fr n (upd e d undef)) w) : wpAnyB P .any l.toArray Q S bar (fuel + 1) listed (fr n e) w := by
  simp only [takeB, Bool.and_eq_true] at hB
  have hi' : l.toArray[i]? = some { dst := some d, op := op, type := ty, pos := pos, after := af, guard := some (j, b) } := by simpa using hi
  refine wpAnyB_first hi' (Region.noSelect_spec hB.1.1.1) (fun c a w h => hc c _ _ w h) hB.2 fuel listed _ w (Region.free_spec hi' hB.1.1.2) (by simpa using hB.1.2) (.inr ⟨?_, rfl⟩) hS (by rw [put_fr]; exact h)
  simp only [Region.wanted]
  rw [yielded_fr (t := t) (b := c0) (by simpa using hj) hv]
  subst hcb
  cases c0 <;> rfl

def stillB (l : List Oper) (bar : Nat) (listed : Array Bool) (i : Nat) : Bool :=
  Region.noSelect l.toArray && Region.free .any l.toArray listed i && (Region.ready .any l.toArray listed).contains i && !Nat.beq i bar
theorem b_still (hc : Calm Q) (hS : S w) (i : Nat) (hi : l[i]? = some { dst := some d, op := op, type := ty, pos := pos, after := af, guard := none }) (hB : stillB l bar listed i = true)
    (hy : ∀ w, Ev P (opv n e) op ty w v)
    (h : wpAnyB P .any l.toArray Q S bar fuel (listed.setIfInBounds i true) (fr n (upd e d v)) w) : wpAnyB P .any l.toArray Q S bar (fuel + 1) listed (fr n e) w := by
  simp only [stillB, Bool.and_eq_true, Bool.not_eq_true'] at hB
  have hi' : l.toArray[i]? = some { dst := some d, op := op, type := ty, pos := pos, after := af, guard := none } := by simpa using hi
  refine wpAnyB_still hi' (Region.noSelect_spec hB.1.1.1) (fun c a w h => hc c _ _ w h) (fun e => by rw [e] at hB; simp at hB) fuel listed _ w (Region.free_spec hi' hB.1.1.2) (by simpa using hB.1.2) (.inl ⟨rfl, fun w => ?_⟩) hS (by rw [put_fr]; exact h)
  rw [eval_fr, exec_same]
  exact hy w
theorem b_stillg {j t : Nat} {b : Bool} (hc : Calm Q) (hS : S w) (i : Nat) (hi : l[i]? = some { dst := some d, op := op, type := ty, pos := pos, after := af, guard := some (j, b) }) (hB : stillB l bar listed i = true)
    (hj : ((l[j]?).bind fun o => o.dst) = some t) (hv : opv n e (.tmp t) = .bool b) (hy : ∀ w, Ev P (opv n e) op ty w v)
    (h : wpAnyB P .any l.toArray Q S bar fuel (listed.setIfInBounds i true) (fr n (upd e d v)) w) : wpAnyB P .any l.toArray Q S bar (fuel + 1) listed (fr n e) w := by
  simp only [stillB, Bool.and_eq_true, Bool.not_eq_true'] at hB
  have hi' : l.toArray[i]? = some { dst := some d, op := op, type := ty, pos := pos, after := af, guard := some (j, b) } := by simpa using hi
  refine wpAnyB_still hi' (Region.noSelect_spec hB.1.1.1) (fun c a w h => hc c _ _ w h) (fun e => by rw [e] at hB; simp at hB) fuel listed _ w (Region.free_spec hi' hB.1.1.2) (by simpa using hB.1.2) (.inl ⟨?_, fun w => ?_⟩) hS (by rw [put_fr]; exact h)
  · simp only [Region.wanted]
    rw [yielded_fr (t := t) (b := b) (by simpa using hj) hv]
    simp
  · rw [eval_fr, exec_same]
    exact hy w

/-- The one operation that may come up. -/
theorem b_eff (i : Nat) (hi : l[i]? = some { dst := some d, op := op, type := ty, pos := pos, after := af, guard := none }) (hr : Region.ready .any l.toArray listed = [i]) (hne : Nat.beq i bar = false) (h : Does P n e op ty w R)
    (k : ∀ v w', R v w' → S w' ∧ wpAnyB P .any l.toArray Q S bar fuel (listed.setIfInBounds i true) (fr n (upd e d v)) w') : wpAnyB P .any l.toArray Q S bar (fuel + 1) listed (fr n e) w := by
  refine ⟨fun h0 => (by rw [h0] at hr; cases hr), fun j hj => ?_⟩
  rw [hr] at hj
  obtain rfl : j = i := by simpa using hj
  have hi' : l.toArray[j]? = some { dst := some d, op := op, type := ty, pos := pos, after := af, guard := none } := by simpa using hi
  unfold wpOp
  simp only [hi']
  rw [if_pos (by simp [Region.wanted])]
  refine .inl (h.run _ _ _ _ _ _ fun v w' r => ?_)
  rw [put_fr]
  exact ⟨fun e => by subst e; simp at hne, fun _ => k v w' r⟩
theorem b_effg {j t : Nat} {b : Bool} (i : Nat) (hi : l[i]? = some { dst := some d, op := op, type := ty, pos := pos, after := af, guard := some (j, b) }) (hr : Region.ready .any l.toArray listed = [i]) (hne : Nat.beq i bar = false)
    (hj : ((l[j]?).bind fun o => o.dst) = some t) (hv : opv n e (.tmp t) = .bool b) (h : Does P n e op ty w R)
    (k : ∀ v w', R v w' → S w' ∧ wpAnyB P .any l.toArray Q S bar fuel (listed.setIfInBounds i true) (fr n (upd e d v)) w') : wpAnyB P .any l.toArray Q S bar (fuel + 1) listed (fr n e) w := by
  refine ⟨fun h0 => (by rw [h0] at hr; cases hr), fun j' hj' => ?_⟩
  rw [hr] at hj'
  obtain rfl : j' = i := by simpa using hj'
  have hi' : l.toArray[j']? = some { dst := some d, op := op, type := ty, pos := pos, after := af, guard := some (j, b) } := by simpa using hi
  unfold wpOp
  simp only [hi']
  have hw : Region.wanted { dst := some d, op := op, type := ty, pos := pos, after := af, guard := some (j, b) } (yielded l.toArray (fr n e).tmps) = true := by
    simp only [Region.wanted]
    rw [yielded_fr (t := t) (b := b) (by simpa using hj) hv]
    simp
  rw [if_pos hw]
  refine .inl (h.run _ _ _ _ _ _ fun v w' r => ?_)
  rw [put_fr]
  exact ⟨fun e => by subst e; simp at hne, fun _ => k v w' r⟩
/-- The bar: behind it S is asked no more. -/
theorem b_bar (hi : l[bar]? = some { dst := none, op := op, type := ty, pos := pos, after := af, guard := none }) (hr : Region.ready .any l.toArray listed = [bar]) (h : Does P n e op ty w R)
    (k : ∀ v w', R v w' → wpAny P .any l.toArray Q fuel (listed.setIfInBounds bar true) (fr n e) w') : wpAnyB P .any l.toArray Q S bar (fuel + 1) listed (fr n e) w := by
  refine ⟨fun h0 => (by rw [h0] at hr; cases hr), fun j hj => ?_⟩
  rw [hr] at hj
  obtain rfl : j = bar := by simpa using hj
  have hi' : l.toArray[j]? = some { dst := none, op := op, type := ty, pos := pos, after := af, guard := none } := by simpa using hi
  unfold wpOp
  simp only [hi']
  rw [if_pos (by simp [Region.wanted])]
  refine .inl (h.run _ _ _ _ _ _ fun v w' r => ?_)
  exact ⟨fun _ => k v w' r, fun e => absurd rfl e⟩
theorem b_done (hr : Region.ready .any l.toArray listed = []) (h : Q .normal (fr n e) w) : wpAnyB P .any l.toArray Q S bar fuel listed (fr n e) w := by
  cases fuel with
  | zero => exact ⟨hr, h⟩
  | succ f => exact ⟨fun _ => h, by rw [hr]; simp⟩
theorem b_end (hr : Region.ready .any l.toArray listed = []) (h : Q .normal (fr n e) w) : wpAny P .any l.toArray Q fuel listed (fr n e) w := by
  cases fuel with
  | zero => exact ⟨hr, h⟩
  | succ f => exact ⟨fun _ => h, by rw [hr]; simp⟩
end
end Go.Proofs.YtgikfcmcgpcckaaGreatDoor.Sl
