/- Steps through code: sequences, conditions, loops, calls. A part of the proofs of FnExactDegree and FnExactCoefficient. -/
import Derived.Test.YtgikfcmcgpcckaaGreatDoorEv
namespace Go.Proofs.YtgikfcmcgpcckaaGreatDoor.Sl
open Go

section
variable {P : Program} {l : List Oper} {Q : Exit → Act → World → Prop} {n : Nat} {e : Env} {w : World} {rest : List Oper} {d : Nat} {op : Op} {ty : TypeId} {pos : String} {af : Array Edge} {v : Value}

/-! ### Code -/
theorem c_seq {x y : Code} {a : Act} (h : x.wp P (Exit.then (y.wp P Q) Q) a w) : (Code.seq x y).wp P Q a w := wp_seq h
theorem c_skip {a : Act} (h : Q .normal a w) : Code.skip.wp P Q a w := wp_skip h
theorem c_exit {a : Act} {id : Nat} (h : Q (.exit id) a w) : (Code.exit id).wp P Q a w := wp_exit h
theorem c_ret {a : Act} (h : Q .ret a w) : Code.ret.wp P Q a w := wp_ret h
theorem c_block {a : Act} {id : Nat} {c : Code} (h : c.wp P (Exit.inBlock id Q) a w) : (Code.block id c).wp P Q a w := wp_block h
theorem c_region {id : Nat} (h : wpList P l.toArray Q l (fr n e) w) : (Code.region id l.toArray false).wp P Q (fr n e) w := wp_region_lit h
theorem c_true {c : Operand} {x y : Code} (hc : opv n e c = .bool true) (h : x.wp P Q (fr n e) w) : (Code.cond c x y).wp P Q (fr n e) w := wp_cond_true (by rw [eval_fr]; exact hc) h
theorem c_false {c : Operand} {x y : Code} (hc : opv n e c = .bool false) (h : y.wp P Q (fr n e) w) : (Code.cond c x y).wp P Q (fr n e) w := wp_cond_false (by rw [eval_fr]; exact hc) h
theorem c_if {c : Operand} {x y : Code} {q : Prop} [Decidable q] (hc : opv n e c = .bool (decide q)) (ht : q → x.wp P Q (fr n e) w) (hf : ¬ q → y.wp P Q (fr n e) w) : (Code.cond c x y).wp P Q (fr n e) w := by
  by_cases h : q
  · exact c_true (by rw [hc]; simp [h]) (ht h)
  · exact c_false (by rw [hc]; simp [h]) (hf h)

/-- A loop: the relation speaks of the frame by a base that is anything and the slots that matter. -/
theorem c_loop {α : Type} {c : Code} (I : α → Env → World → Prop) (μ : α → Nat) (x : α) (h0 : I x e w)
    (round : ∀ (x : α) (e : Env) (w : World), I x e w → c.wp P (Exit.then (fun a' w' => ∃ (x' : α) (e' : Env), a' = fr n e' ∧ I x' e' w' ∧ μ x' < μ x) Q) (fr n e) w) : (Code.loop c).wp P Q (fr n e) w := by
  intro b k cs
  have key : ∀ (m : Nat) (x : α) (e : Env) (w : World), μ x = m → I x e w →
      ∃ ex a' w', Q ex a' w' ∧ Arrives P (lone (b.at (fr n e) (.code c :: .inLoop c :: k)) cs w) b k cs ex a' w' := by
    intro m
    induction m using Nat.strongRecOn with
    | _ m ih =>
      intro x e w hm hI
      obtain ⟨ex, a₁, w₁, hq, harr⟩ := round x e w hI b (.inLoop c :: k) cs
      cases ex with
      | normal =>
        obtain ⟨x', e', rfl, hI', hlt⟩ := hq
        obtain ⟨e₂, a₂, w₂, hq₂, harr₂⟩ := ih (μ x') (hm ▸ hlt) x' e' w₁ rfl hI'
        exact ⟨e₂, a₂, w₂, hq₂, .of_steps (Steps.trans harr (.one step_inLoop)) harr₂⟩
      | exit id => exact ⟨_, a₁, w₁, hq, .pass (x := .inLoop c) rfl (fun _ _ => .inl (by simp)) harr⟩
      | goto l => exact ⟨_, a₁, w₁, hq, .pass (x := .inLoop c) rfl (fun _ _ => .inl (by simp)) harr⟩
      | ret => exact ⟨_, a₁, w₁, hq, .pass (x := .inLoop c) rfl (fun _ _ => .inl (by simp)) harr⟩
      | panic ch => exact ⟨_, a₁, w₁, hq, .pass (x := .inLoop c) rfl (fun _ _ => .inl (by simp)) harr⟩
      | outgrown => exact ⟨_, a₁, w₁, hq, .pass (x := .inLoop c) rfl (fun _ _ => .inl (by simp)) harr⟩
  obtain ⟨ex, a', w', hq, harr⟩ := key _ x e w rfl h0
  exact ⟨ex, a', w', hq, .of_steps (.one step_loop) harr⟩

/-- What a slot holds may be written out. -/
theorem upd_self {e : Env} {d : Nat} {v : Value} (h : e d = v) : upd e d v = e := by
  funext t
  unfold upd
  by_cases ht : t = d
  · subst ht
    have : Nat.beq t t = true := by simp
    rw [this]; exact h.symm
  · have : Nat.beq t d = false := Bool.eq_false_iff.2 fun e => ht (Nat.eq_of_beq_eq_true e)
    rw [this]; rfl

/-! ### Out of a piece of code -/
theorem x_norm {K : Act → World → Prop} {a : Act} (h : K a w) : Exit.then K Q .normal a w := h
theorem x_normb {a : Act} {id : Nat} (h : Q .normal a w) : Exit.inBlock id Q .normal a w := h
theorem x_ret {K : Act → World → Prop} {a : Act} (h : Q .ret a w) : Exit.then K Q .ret a w := h
theorem x_retb {a : Act} {id : Nat} (h : Q .ret a w) : Exit.inBlock id Q .ret a w := h
theorem x_exit {K : Act → World → Prop} {a : Act} {id : Nat} (h : Q (.exit id) a w) : Exit.then K Q (.exit id) a w := h
theorem x_exitb {a : Act} {id : Nat} (h : Q .normal a w) : Exit.inBlock id Q (.exit id) a w := by
  unfold Exit.inBlock; simp only [if_true]; exact h
theorem x_exitn {a : Act} {id id' : Nat} (hne : Nat.beq id' id = false) (h : Q (.exit id') a w) : Exit.inBlock id Q (.exit id') a w := by
  unfold Exit.inBlock
  have : id' ≠ id := fun e => by subst e; simp at hne
  simp only [this, if_false]; exact h

/-! ### Calls -/
theorem s_call {f g : FuncId} {as : List Operand} {ts : Array TypeId} {R : Value → World → Prop}
    (hc : ∀ (A : Array Value) (w : World), (callFunc f A).run P w = .ok (.enter g A) w)
    (h : Calls P g ((as.map (opv n e)).toArray) w fun e' w' => ∃ v, e' = .returned v ∧ R v w')
    (k : ∀ v w', R v w' → wpList P l.toArray Q rest (fr n (upd e d v)) w') :
    wpList P l.toArray Q ({ dst := some d, op := .call { callee := .value (.func f), args := as.toArray, argTypes := ts }, type := ty, pos := pos, after := af, guard := none } :: rest) (fr n e) w := by
  refine wpList_plain rfl fun K hK => ?_
  unfold Oper.wp
  rw [eval_fr]
  have hrun : (execOp (opv n e) { dst := some d, op := .call { callee := .value (.func f), args := as.toArray, argTypes := ts }, type := ty, pos := pos, after := af, guard := none }).run P w = .ok (.enter g ((as.map (opv n e)).toArray)) w := by
    simp [execOp, resolve, Deferred.ofValue, opv, go_sem, invoke, hc]
  rw [hrun]
  simp only [Oper.upon_enter]
  refine h.mono fun e' w' ⟨v, he, hR⟩ => ?_
  subst he
  simp only [put_fr]
  exact hK _ _ (k v w' hR)

theorem s_invoke {f : FuncId} {x : Operand} {nm : String} {as : List Operand} {ts : Array TypeId} {R : Value → World → Prop} {A : Array Value}
    (hm : (callMethod (opv n e x) nm ((as.map (opv n e)).toArray)).run P w = .ok (.enter f A) w)
    (h : Calls P f A w fun e' w' => ∃ v, e' = .returned v ∧ R v w')
    (k : ∀ v w', R v w' → wpList P l.toArray Q rest (fr n (upd e d v)) w') :
    wpList P l.toArray Q ({ dst := some d, op := .call { callee := .invoke x nm, args := as.toArray, argTypes := ts }, type := ty, pos := pos, after := af, guard := none } :: rest) (fr n e) w := by
  refine wpList_plain rfl fun K hK => ?_
  unfold Oper.wp
  rw [eval_fr]
  have hrun : (execOp (opv n e) { dst := some d, op := .call { callee := .invoke x nm, args := as.toArray, argTypes := ts }, type := ty, pos := pos, after := af, guard := none }).run P w = .ok (.enter f A) w := by
    have h1 : (#[opv n e x] ++ (as.map (opv n e)).toArray).extract 1 (#[opv n e x] ++ (as.map (opv n e)).toArray).size = (as.map (opv n e)).toArray := by simp [List.take_of_length_le]
    show (invoke (.fn (.method nm) #[]) (#[opv n e x] ++ as.toArray.map (opv n e))).run P w = _
    unfold invoke
    have h0 : (#[opv n e x] ++ (as.map (opv n e)).toArray)[0]? = some (opv n e x) := by simp
    simp only [List.map_toArray, h0, h1]
    exact hm
  rw [hrun]
  simp only [Oper.upon_enter]
  refine h.mono fun e' w' ⟨v, he, hR⟩ => ?_
  subst he
  simp only [put_fr]
  exact hK _ _ (k v w' hR)

/-! ### The function -/
def ini (args : List Value) : Env := fun t => args.getD t undef

theorem ini_fr (args : List Value) (n : Nat) (h : args.length ≤ n) : ({ tmps := args.toArray ++ Array.replicate (n - args.toArray.size) undef, defers := [] } : Act) = fr n (ini args) := by
  unfold fr
  congr 1
  apply Array.ext
  · simp; omega
  · intro i h1 h2
    have hi : i < n := by simpa using h2
    simp only [List.getElem_toArray, List.getElem_map, List.getElem_range, ini]
    by_cases hl : i < args.length
    · simp [hl]
    · simp [Array.getElem_append, hl]

def Ret (R : Value → World → Prop) : Ending → World → Prop := fun e w => ∃ v, e = .returned v ∧ R v w

theorem body {f : FuncId} {fn : Func} {c : Code} {args : List Value} {R : Ending → World → Prop} (hf : P.funcs[f]? = some fn) (hb : fn.body = some c) (hn : fn.ntmps = n) (ha : Nat.ble args.length n = true)
    (h : c.wp P (bodyPost P fn R) (fr n (ini args)) w) : Calls P f args.toArray w R := by
  refine calls_of_wp hf hb ?_
  rw [hn, ini_fr args n (by simpa using ha)]
  exact h

theorem r_ret {fn : Func} {t : Tmp} {R : Value → World → Prop} (hr : fn.results = #[.tmp t]) (ht : Nat.blt t n = true) (h : R (e t) w) : bodyPost P fn (fun e' w' => ∃ v, e' = .returned v ∧ R v w') .ret (fr n e) w := by
  refine ⟨rfl, e t, ?_, _, rfl, h⟩
  rw [results_tmp hr]
  have : t < n := by simpa using ht
  simp [fr, this]
theorem r_ret2 {fn : Func} {t u : Tmp} {R : Value → World → Prop} (hr : fn.results = #[.tmp t, .tmp u]) (ht : Nat.blt t n = true) (hu : Nat.blt u n = true) (h : R (.tuple #[e t, e u]) w) : bodyPost P fn (fun e' w' => ∃ v, e' = .returned v ∧ R v w') .ret (fr n e) w := by
  refine ⟨rfl, _, ?_, _, rfl, h⟩
  rw [results_tmp2 hr]
  have : t < n := by simpa using ht
  have : u < n := by simpa using hu
  simp [fr, *]
end
end Go.Proofs.YtgikfcmcgpcckaaGreatDoor.Sl
