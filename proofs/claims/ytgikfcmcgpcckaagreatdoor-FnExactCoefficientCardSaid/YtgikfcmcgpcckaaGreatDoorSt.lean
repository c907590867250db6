/- Loads, stores and new blocks in owned memory. A part of the proofs of FnExactDegree and FnExactCoefficient. -/
import Derived.Test.YtgikfcmcgpcckaaGreatDoorMm
import Derived.Test.YtgikfcmcgpcckaaGreatDoorDr
namespace Go.Proofs.YtgikfcmcgpcckaaGreatDoor.Sl
open Go

theorem Own.perm {K : Nat → Prop} {W0 w : World} {L L' : List Hl} (H : Own K W0 w L) (p : L.Perm L') : Own K W0 w L' :=
  { H with
    mine := fun h hh => H.mine h (p.mem_iff.2 hh)
    apart := (p.pairwise_iff fun {_ _} d => Hl.disj.symm d).1 H.apart }

theorem Own.alloc_end {K : Nat → Prop} {W0 w : World} {L : List Hl} (H : Own K W0 w L) (o : Obj) : Own K W0 (w.alloc o) (L ++ [Hl.one w.heap.size o]) :=
  (H.alloc o).perm (List.perm_append_singleton _ _).symm

section
variable {P : Program} {l : List Oper} {Q : Exit → Act → World → Prop} {n : Nat} {e : Env} {w : World} {rest : List Oper} {d : Nat} {op : Op} {ty t t' : TypeId} {pos : String} {af : Array Edge} {v : Value} {x y : Operand}
variable {K : Nat → Prop} {W0 : World} {L : List Hl}

theorem run_isAgg {t : TypeId} {ds : TypeDesc} (hu : P.underlying t = some ds) : (isAgg t).run P w = .ok (aggD ds) w := by
  unfold isAgg
  cases ds <;> simp [go_sem, run_und hu, aggD]

theorem ev_loadH {b o : Nat} {cs : Array Value} {tt : TypeId} {fz : Nat × Nat} {ds : TypeDesc} (hx : opv n e x = .pointer (some ⟨b, o, none⟩)) (hu : P.underlying t = some ds) (hn : aggD ds = false)
    (hb : w.heap[b]? = some (.cells cs tt fz)) (hv : cs[o]? = some v) : Ev P (opv n e) (.load t x) ty w v :=
  ev_load hx hu hn (cell_of hb hv)

theorem ev_loadAgg {b o sz : Nat} {cs : Array Value} {tt : TypeId} {fz : Nat × Nat} {ds : TypeDesc} (hx : opv n e x = .pointer (some ⟨b, o, none⟩)) (hu : P.underlying t = some ds) (hn : aggD ds = true)
    (hs : (P.info? t).map (fun ti => ti.size) = some sz) (hb : w.heap[b]? = some (.cells cs tt fz)) (hle : o + sz ≤ cs.size) : Ev P (opv n e) (.load t x) ty w (.agg (cs.extract o (o + sz))) := by
  have ha := run_isAgg (w := w) hu
  rw [hn] at ha
  simp [Ev, execOp, hx, Instr.loadAt, Instr.sureAddr, loadVar, ha, run_size hs, run_loadCells hb hle]

/-- A field's address. -/
theorem ev_field {b o f sz : Nat} {fs : Array Field} {fd : Field} (hx : opv n e x = .pointer (some ⟨b, o, none⟩)) (hu : P.underlying t = some (.struct fs)) (hf : fs[f]? = some fd)
    (hs : (P.info? fd.type).map (fun ti => ti.size) = some sz) (hz : Nat.ble 1 sz = true) : Ev P (opv n e) (.fieldAddr t x f) ty w (.pointer (some ⟨b, o + fd.offset, none⟩)) := by
  have h1 : sz ≠ 0 := by have := Nat.le_of_ble_eq_true hz; omega
  simp [Ev, execOp, hx, Instr.fieldAt, run_und hu, hf, Instr.sureAddr, fieldPlace, run_size hs, h1, add_off]

/-- A store of a value of one cell or of many. -/
theorem d_store (H : Own K W0 w L) (i : Nat) {h : Hl} {b o sz : Nat} {cs vs : Array Value} {tt : TypeId} (hi : L[i]? = some h) (hx : opv n e x = .pointer (some ⟨b, o, none⟩)) (hy : (opv n e y).cells = vs) (hb : h b = some (.cells cs tt (0, 0)))
    (hs : (P.info? t).map (fun ti => ti.size) = some sz) (hsz : vs.size = sz) (hone : ∀ v ∈ vs.toList, v.oneCell' = true) (hle : o + sz ≤ cs.size) :
    Does P n e (.store t x y) ty w fun _ w' => Own K W0 w' (L.set i (h.put b (.cells (splice cs o vs.toList) tt (0, 0)))) := by
  obtain ⟨hlt, rfl⟩ := List.getElem?_eq_some_iff.1 hi
  obtain ⟨w', hr, H'⟩ := run_storeCells (P := P) (K := K) (W0 := W0) (L := L) (i := i) (b := b) (t := tt) vs.toList o 0 w L[i] cs hone (by simpa using H) hlt hb (by simp; omega)
  refine (d_skip (w' := w') ?_).mono fun _ _ h => by rw [h.2]; simpa using H'
  simp [execOp, hx, Instr.storeAt, Instr.sureAddr, storeVar, hy, run_size hs, hsz, hr]

/-- A store into one cell. -/
theorem d_store1 (H : Own K W0 w L) (i : Nat) {h : Hl} {b o : Nat} {cs : Array Value} {tt : TypeId} (hi : L[i]? = some h) (hx : opv n e x = .pointer (some ⟨b, o, none⟩)) (hy : opv n e y = v) (hb : h b = some (.cells cs tt (0, 0)))
    (hs : (P.info? t).map (fun ti => ti.size) = some 1) (hone : v.oneCell' = true) (hle : o < cs.size) :
    Does P n e (.store t x y) ty w fun _ w' => Own K W0 w' (L.set i (h.put b (.cells (cs.setIfInBounds o v) tt (0, 0)))) := by
  have hc : v.cells = #[v] := by cases v <;> first | rfl | (simp [Value.oneCell'] at hone)
  have := d_store (P := P) (ty := ty) (t := t) H i (vs := #[v]) hi hx (by rw [hy, hc]) hb hs rfl (by simpa using hone) (by omega)
  have e1 : splice cs o (#[v] : Array Value).toList = cs.setIfInBounds o v := by
    have := splice_cons cs o v [] (by simp; omega)
    rw [splice_nil _ _ (by simp; omega)] at this
    exact this.symm
  rw [e1] at this
  exact this

theorem d_new {o : Obj} (H : Own K W0 w L) (hr : (execOp (opv n e) { dst := none, op := op, type := ty, pos := "", after := #[], guard := none }).run P w = .ok (.value (.pointer (some ⟨w.heap.size, 0, none⟩))) (w.alloc o)) :
    Does P n e op ty w fun v w' => ∃ b, v = .pointer (some ⟨b, 0, none⟩) ∧ Own K W0 w' (L ++ [Hl.one b o]) :=
  (d_run hr).mono fun _ _ h => ⟨_, h.1, by rw [h.2]; exact H.alloc_end o⟩

theorem d_box {cs : Array Value} (H : Own K W0 w L) (hx : (opv n e x).cells = cs) :
    Does P n e (.box t x) ty w fun v w' => ∃ b, v = .pointer (some ⟨b, 0, none⟩) ∧ Own K W0 w' (L ++ [Hl.one b (.cells cs t (0, 0))]) := by
  refine d_new H ?_
  simp [execOp, Instr.box, newVar, newRow, hx]

theorem d_alloc {cs : Array Value} (H : Own K W0 w L) {z : Value} (hz : (P.info? t).bind (fun ti => ti.zero) = some z) (hc : z.cells = cs) :
    Does P n e (.alloc t) ty w fun v w' => ∃ b, v = .pointer (some ⟨b, 0, none⟩) ∧ Own K W0 w' (L ++ [Hl.one b (.cells cs t (0, 0))]) := by
  obtain ⟨ti, h1, h2⟩ : ∃ ti, P.info? t = some ti ∧ ti.zero = some z := by
    cases h : P.info? t with
    | none => rw [h] at hz; cases hz
    | some ti => rw [h] at hz; exact ⟨ti, rfl, hz⟩
  refine d_new H ?_
  have hzv : (zeroValue t).run P w = .ok z w := by simp [zeroValue, typeInfo, h1, h2]
  simp [execOp, Instr.alloc, newVar, newRow, hzv, hc]
end
end Go.Proofs.YtgikfcmcgpcckaaGreatDoor.Sl
