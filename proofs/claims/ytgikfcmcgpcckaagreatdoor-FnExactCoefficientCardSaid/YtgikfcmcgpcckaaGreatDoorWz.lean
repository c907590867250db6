/- The judgments closed up, and their steps. A part of the proofs of FnExactDegree and FnExactCoefficient. -/
import Derived.Test.YtgikfcmcgpcckaaGreatDoorSx
namespace Go.Proofs.YtgikfcmcgpcckaaGreatDoor.Sl
open Go

/-- A list of operations, in a box that nothing looks into. -/
structure WL (P : Program) (ops : Array Oper) (Q : Exit → Act → World → Prop) (rest : List Oper) (a : Act) (w : World) : Prop where
  out : wpList P ops Q rest a w
structure CW (P : Program) (c : Code) (Q : Exit → Act → World → Prop) (a : Act) (w : World) : Prop where
  out : c.wp P Q a w
structure WB (P : Program) (ops : Array Oper) (Q : Exit → Act → World → Prop) (S : World → Prop) (bar fuel : Nat) (listed : Array Bool) (a : Act) (w : World) : Prop where
  out : wpAnyB P .any ops Q S bar fuel listed a w
structure WA (P : Program) (ops : Array Oper) (Q : Exit → Act → World → Prop) (fuel : Nat) (listed : Array Bool) (a : Act) (w : World) : Prop where
  out : wpAny P .any ops Q fuel listed a w
theorem CW_eq (P : Program) (c : Code) (Q : Exit → Act → World → Prop) : CW P c Q = c.wp P Q := funext fun _ => funext fun _ => propext ⟨CW.out, CW.mk⟩

section
variable {P : Program} {l : List Oper} {Q : Exit → Act → World → Prop} {n : Nat} {e : Env} {w : World} {rest : List Oper} {d : Nat} {op : Op} {ty : TypeId} {pos : String} {af : Array Edge} {v : Value} {R : Value → World → Prop} {S : World → Prop} {bar fuel : Nat} {listed : Array Bool} {a : Act}

theorem s_nilW (h : Q .normal (fr n e) w) : WL P l.toArray Q [] (fr n e) w := ⟨s_nil h⟩
theorem s_valW (h : Ev P (opv n e) op ty w v) (k : WL P l.toArray Q rest (fr n (upd e d v)) w) :
    WL P l.toArray Q ({ dst := some d, op := op, type := ty, pos := pos, after := af, guard := none } :: rest) (fr n e) w := ⟨s_val h k.out⟩
theorem s_valgW {j t : Nat} {b : Bool} (hj : ((l[j]?).bind fun o => o.dst) = some t) (hv : opv n e (.tmp t) = .bool b) (h : Ev P (opv n e) op ty w v) (k : WL P l.toArray Q rest (fr n (upd e d v)) w) :
    WL P l.toArray Q ({ dst := some d, op := op, type := ty, pos := pos, after := af, guard := some (j, b) } :: rest) (fr n e) w := ⟨s_valg hj hv h k.out⟩
theorem s_skipW {j t : Nat} {b c : Bool} (hj : ((l[j]?).bind fun o => o.dst) = some t) (hv : opv n e (.tmp t) = .bool c) (hc : (!c) = b) (k : WL P l.toArray Q rest (fr n (upd e d undef)) w) :
    WL P l.toArray Q ({ dst := some d, op := op, type := ty, pos := pos, after := af, guard := some (j, b) } :: rest) (fr n e) w := ⟨s_skip hj hv hc k.out⟩
theorem s_skipuW {j t : Nat} {b : Bool} (hj : ((l[j]?).bind fun o => o.dst) = some t) (hv : opv n e (.tmp t) = undef) (k : WL P l.toArray Q rest (fr n (upd e d undef)) w) :
    WL P l.toArray Q ({ dst := some d, op := op, type := ty, pos := pos, after := af, guard := some (j, b) } :: rest) (fr n e) w := ⟨s_skipu hj hv k.out⟩
theorem s_effW (h : Does P n e op ty w R) (k : ∀ v w', R v w' → WL P l.toArray Q rest (fr n (upd e d v)) w') :
    WL P l.toArray Q ({ dst := some d, op := op, type := ty, pos := pos, after := af, guard := none } :: rest) (fr n e) w := ⟨s_eff h fun v w' r => (k v w' r).out⟩
theorem s_eff0W (h : Does P n e op ty w R) (k : ∀ v w', R v w' → WL P l.toArray Q rest (fr n e) w') :
    WL P l.toArray Q ({ dst := none, op := op, type := ty, pos := pos, after := af, guard := none } :: rest) (fr n e) w := ⟨s_eff0 h fun v w' r => (k v w' r).out⟩
theorem s_effgW {j t : Nat} {b : Bool} (hj : ((l[j]?).bind fun o => o.dst) = some t) (hv : opv n e (.tmp t) = .bool b) (h : Does P n e op ty w R) (k : ∀ v w', R v w' → WL P l.toArray Q rest (fr n (upd e d v)) w') :
    WL P l.toArray Q ({ dst := some d, op := op, type := ty, pos := pos, after := af, guard := some (j, b) } :: rest) (fr n e) w := ⟨s_effg hj hv h fun v w' r => (k v w' r).out⟩

theorem c_seqW {x y : Code} (h : CW P x (Exit.then (CW P y Q) Q) a w) : CW P (Code.seq x y) Q a w := ⟨c_seq (by rw [← CW_eq P y Q]; exact h.out)⟩
theorem c_skipW (h : Q .normal a w) : CW P Code.skip Q a w := ⟨c_skip h⟩
theorem c_exitW {id : Nat} (h : Q (.exit id) a w) : CW P (Code.exit id) Q a w := ⟨c_exit h⟩
theorem c_retW (h : Q .ret a w) : CW P Code.ret Q a w := ⟨c_ret h⟩
theorem c_blockW {id : Nat} {c : Code} (h : CW P c (Exit.inBlock id Q) a w) : CW P (Code.block id c) Q a w := ⟨c_block h.out⟩
theorem c_regionW {id : Nat} (h : WL P l.toArray Q l (fr n e) w) : CW P (Code.region id l.toArray false) Q (fr n e) w := ⟨c_region h.out⟩
theorem c_trueW {c : Operand} {x y : Code} (hc : opv n e c = .bool true) (h : CW P x Q (fr n e) w) : CW P (Code.cond c x y) Q (fr n e) w := ⟨c_true hc h.out⟩
theorem c_falseW {c : Operand} {x y : Code} (hc : opv n e c = .bool false) (h : CW P y Q (fr n e) w) : CW P (Code.cond c x y) Q (fr n e) w := ⟨c_false hc h.out⟩
theorem c_ifW {c : Operand} {x y : Code} {q : Prop} [Decidable q] (hc : opv n e c = .bool (decide q)) (ht : q → CW P x Q (fr n e) w) (hf : ¬ q → CW P y Q (fr n e) w) : CW P (Code.cond c x y) Q (fr n e) w :=
  ⟨c_if hc (fun h => (ht h).out) fun h => (hf h).out⟩
theorem c_ifbW {c : Operand} {x y : Code} {q : Bool} (hc : opv n e c = .bool q) (ht : q = true → CW P x Q (fr n e) w) (hf : q = false → CW P y Q (fr n e) w) : CW P (Code.cond c x y) Q (fr n e) w :=
  ⟨c_ifb hc (fun h => (ht h).out) fun h => (hf h).out⟩
theorem c_loopW {α : Type} {c : Code} (I : α → Env → World → Prop) (μ : α → Nat) (x : α) (h0 : I x e w)
    (round : ∀ (x : α) (e : Env) (w : World), I x e w → CW P c (Exit.then (fun a' w' => ∃ (x' : α) (e' : Env), a' = fr n e' ∧ I x' e' w' ∧ μ x' < μ x) Q) (fr n e) w) : CW P (Code.loop c) Q (fr n e) w :=
  ⟨c_loop I μ x h0 fun x e w hI => (round x e w hI).out⟩
theorem bodyW {f : FuncId} {fn : Func} {c : Code} {args : List Value} {R : Ending → World → Prop} (hf : P.funcs[f]? = some fn) (hb : fn.body = some c) (hn : fn.ntmps = n) (ha : Nat.ble args.length n = true)
    (h : CW P c (bodyPost P fn R) (fr n (ini args)) w) : Calls P f args.toArray w R := body hf hb hn ha h.out

theorem b_beginW {id : Nat} (hm : P.follows .mixedOrders = true) (S : World → Prop) (bar : Nat) (h : WB P l.toArray Q S bar l.toArray.size (Array.replicate l.toArray.size false) (fr n e) w.drew) :
    CW P (Code.region id l.toArray true) Q (fr n e) w := ⟨b_begin hm S bar h.out⟩
theorem b_againW (S : World → Prop) (bar : Nat) (h : WB P l.toArray Q S bar fuel listed (fr n e) w) : WA P l.toArray Q fuel listed (fr n e) w := ⟨b_again S bar h.out⟩
theorem b_takeW (hc : Calm Q) (hS : S w) (i : Nat) (hi : l[i]? = some { dst := some d, op := op, type := ty, pos := pos, after := af, guard := none }) (hB : takeB l bar listed i = true)
    (hy : ∀ w, S w → Ev P (opv n e) op ty w v) (h : WB P l.toArray Q S bar fuel (listed.setIfInBounds i true) (fr n (upd e d v)) w) : WB P l.toArray Q S bar (fuel + 1) listed (fr n e) w := ⟨b_take hc hS i hi hB hy h.out⟩
theorem b_takegW {j t : Nat} {b : Bool} (hc : Calm Q) (hS : S w) (i : Nat) (hi : l[i]? = some { dst := some d, op := op, type := ty, pos := pos, after := af, guard := some (j, b) }) (hB : takeB l bar listed i = true)
    (hj : ((l[j]?).bind fun o => o.dst) = some t) (hv : opv n e (.tmp t) = .bool b) (hy : ∀ w, S w → Ev P (opv n e) op ty w v)
    (h : WB P l.toArray Q S bar fuel (listed.setIfInBounds i true) (fr n (upd e d v)) w) : WB P l.toArray Q S bar (fuel + 1) listed (fr n e) w := ⟨b_takeg hc hS i hi hB hj hv hy h.out⟩
theorem b_skipW {j t : Nat} {b c0 : Bool} (hc : Calm Q) (hS : S w) (i : Nat) (hi : l[i]? = some { dst := some d, op := op, type := ty, pos := pos, after := af, guard := some (j, b) }) (hB : takeB l bar listed i = true)
    (hj : ((l[j]?).bind fun o => o.dst) = some t) (hv : opv n e (.tmp t) = .bool c0) (hcb : (!c0) = b)
    (h : WB P l.toArray Q S bar fuel (listed.setIfInBounds i true) (fr n (upd e d undef)) w) : WB P l.toArray Q S bar (fuel + 1) listed (fr n e) w := ⟨b_skip hc hS i hi hB hj hv hcb h.out⟩
theorem b_stillW (hc : Calm Q) (hS : S w) (i : Nat) (hi : l[i]? = some { dst := some d, op := op, type := ty, pos := pos, after := af, guard := none }) (hB : stillB l bar listed i = true)
    (hy : ∀ w, Ev P (opv n e) op ty w v) (h : WB P l.toArray Q S bar fuel (listed.setIfInBounds i true) (fr n (upd e d v)) w) : WB P l.toArray Q S bar (fuel + 1) listed (fr n e) w := ⟨b_still hc hS i hi hB hy h.out⟩
theorem b_stillgW {j t : Nat} {b : Bool} (hc : Calm Q) (hS : S w) (i : Nat) (hi : l[i]? = some { dst := some d, op := op, type := ty, pos := pos, after := af, guard := some (j, b) }) (hB : stillB l bar listed i = true)
    (hj : ((l[j]?).bind fun o => o.dst) = some t) (hv : opv n e (.tmp t) = .bool b) (hy : ∀ w, Ev P (opv n e) op ty w v)
    (h : WB P l.toArray Q S bar fuel (listed.setIfInBounds i true) (fr n (upd e d v)) w) : WB P l.toArray Q S bar (fuel + 1) listed (fr n e) w := ⟨b_stillg hc hS i hi hB hj hv hy h.out⟩
theorem b_effW (i : Nat) (hi : l[i]? = some { dst := some d, op := op, type := ty, pos := pos, after := af, guard := none }) (hr : Region.ready .any l.toArray listed = [i]) (hne : Nat.beq i bar = false) (h : Does P n e op ty w R)
    (k : ∀ v w', R v w' → S w' ∧ WB P l.toArray Q S bar fuel (listed.setIfInBounds i true) (fr n (upd e d v)) w') : WB P l.toArray Q S bar (fuel + 1) listed (fr n e) w := ⟨b_eff i hi hr hne h fun v w' r => ⟨(k v w' r).1, (k v w' r).2.out⟩⟩
theorem b_effgW {j t : Nat} {b : Bool} (i : Nat) (hi : l[i]? = some { dst := some d, op := op, type := ty, pos := pos, after := af, guard := some (j, b) }) (hr : Region.ready .any l.toArray listed = [i]) (hne : Nat.beq i bar = false)
    (hj : ((l[j]?).bind fun o => o.dst) = some t) (hv : opv n e (.tmp t) = .bool b) (h : Does P n e op ty w R)
    (k : ∀ v w', R v w' → S w' ∧ WB P l.toArray Q S bar fuel (listed.setIfInBounds i true) (fr n (upd e d v)) w') : WB P l.toArray Q S bar (fuel + 1) listed (fr n e) w := ⟨b_effg i hi hr hne hj hv h fun v w' r => ⟨(k v w' r).1, (k v w' r).2.out⟩⟩
theorem b_barW (hi : l[bar]? = some { dst := none, op := op, type := ty, pos := pos, after := af, guard := none }) (hr : Region.ready .any l.toArray listed = [bar]) (h : Does P n e op ty w R)
    (k : ∀ v w', R v w' → WA P l.toArray Q fuel (listed.setIfInBounds bar true) (fr n e) w') : WB P l.toArray Q S bar (fuel + 1) listed (fr n e) w := ⟨b_bar hi hr h fun v w' r => (k v w' r).out⟩
theorem b_doneW (hr : Region.ready .any l.toArray listed = []) (h : Q .normal (fr n e) w) : WB P l.toArray Q S bar fuel listed (fr n e) w := ⟨b_done hr h⟩
theorem b_endW (hr : Region.ready .any l.toArray listed = []) (h : Q .normal (fr n e) w) : WA P l.toArray Q fuel listed (fr n e) w := ⟨b_end hr h⟩
end
end Go.Proofs.YtgikfcmcgpcckaaGreatDoor.Sl
