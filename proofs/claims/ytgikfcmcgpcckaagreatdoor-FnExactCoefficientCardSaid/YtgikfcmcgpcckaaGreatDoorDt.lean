/- Slices of bytes, and slices of them, that may be read. A part of the proofs of FnExactDegree and FnExactCoefficient. -/
import Derived.Test.YtgikfcmcgpcckaaGreatDoorAp
namespace Go.Proofs.YtgikfcmcgpcckaaGreatDoor.Sl
open Go Go.RowKit

def wR (w : World) : Rd := fun k o => w.heap[k]? = some o

/-- A slice of bytes that may be read. -/
def BytesR (R : Rd) (v : Value) (bs : List Nat) : Prop :=
  (∃ p c, v = .slice p 0 c ∧ bs = []) ∨
  ∃ b o c cs t fz, v = .slice (some ⟨b, o, none⟩) bs.length c ∧ R b (.cells cs t fz) ∧ ∀ i x, bs[i]? = some x → cs[o + i]? = some (.int .u8 (x : Nat))

/-- A slice of slices of bytes that may be read. -/
def RowsR (R : Rd) (v : Value) (rows : List (List Nat)) : Prop :=
  (∃ p c, v = .slice p 0 c ∧ rows = []) ∨
  ∃ b o c cs t fz, v = .slice (some ⟨b, o, none⟩) rows.length c ∧ R b (.cells cs t fz) ∧ ∀ i bs, rows[i]? = some bs → ∃ u, cs[o + i]? = some u ∧ BytesR R u bs

theorem BytesR.mono {R R' : Rd} {v : Value} {bs : List Nat} (h : ∀ k o, R k o → R' k o) : BytesR R v bs → BytesR R' v bs
  | .inl x => .inl x
  | .inr ⟨b, o, c, cs, t, fz, h1, h2, h3⟩ => .inr ⟨b, o, c, cs, t, fz, h1, h _ _ h2, h3⟩
theorem RowsR.mono {R R' : Rd} {v : Value} {rows : List (List Nat)} (h : ∀ k o, R k o → R' k o) : RowsR R v rows → RowsR R' v rows
  | .inl x => .inl x
  | .inr ⟨b, o, c, cs, t, fz, h1, h2, h3⟩ => .inr ⟨b, o, c, cs, t, fz, h1, h _ _ h2, fun i bs hi => let ⟨u, h4, h5⟩ := h3 i bs hi; ⟨u, h4, h5.mono h⟩⟩

theorem BytesR.slice {R : Rd} {v : Value} {bs : List Nat} (h : BytesR R v bs) : ∃ p c, v = .slice p bs.length c := by
  rcases h with ⟨p, c, rfl, rfl⟩ | ⟨b, o, c, cs, t, fz, rfl, _⟩ <;> exact ⟨_, _, rfl⟩
theorem RowsR.slice {R : Rd} {v : Value} {rows : List (List Nat)} (h : RowsR R v rows) : ∃ p c, v = .slice p rows.length c := by
  rcases h with ⟨p, c, rfl, rfl⟩ | ⟨b, o, c, cs, t, fz, rfl, _⟩ <;> exact ⟨_, _, rfl⟩

/-- An element of a slice that may be read. -/
theorem BytesR.at {w : World} {p : Option Addr} {c len : Nat} {bs : List Nat} (h : BytesR (wR w) (.slice p len c) bs) {i x : Nat} (hi : bs[i]? = some x) :
    ∃ b o, p = some ⟨b, o, none⟩ ∧ w.cell? ⟨b, o + i, none⟩ = some (.int .u8 (x : Nat)) := by
  rcases h with ⟨p, c, h1, rfl⟩ | ⟨b, o, c, cs, t, fz, h1, h2, h3⟩
  · simp at hi
  · cases h1
    exact ⟨b, o, rfl, cell_of h2 (h3 i x hi)⟩
theorem RowsR.at {w : World} {p : Option Addr} {c len : Nat} {rows : List (List Nat)} (h : RowsR (wR w) (.slice p len c) rows) {i : Nat} {bs : List Nat} (hi : rows[i]? = some bs) :
    ∃ b o u, p = some ⟨b, o, none⟩ ∧ w.cell? ⟨b, o + i, none⟩ = some u ∧ BytesR (wR w) u bs := by
  rcases h with ⟨p, c, h1, rfl⟩ | ⟨b, o, c, cs, t, fz, h1, h2, h3⟩
  · simp at hi
  · cases h1
    obtain ⟨u, h4, h5⟩ := h3 i bs hi
    exact ⟨b, o, u, rfl, cell_of h2 h4, h5⟩

/-- What a call has made: nothing that was there has turned; h holds what is new and is handed on. -/
structure Makes (w w' : World) (h : Hl) : Prop where
  below : Below w.heap.size w w'
  new : ∀ k o, h k = some o → w.heap.size ≤ k ∧ w'.heap[k]? = some o

theorem Own.below {K : Nat → Prop} {W0 w w' : World} {L : List Hl} (H : Own K W0 w L) (B : Below w.heap.size w w') : Own K W0 w' L :=
  { os := B.os.trans H.os, tape := B.tape.trans H.tape, output := B.output.trans H.output, size := Nat.le_trans H.size B.size, bound := H.bound
    keep := fun k hk => (B.block k (Nat.lt_of_lt_of_le (H.bound k hk) H.size)).trans (H.keep k hk)
    mine := fun h hh k o hk => by
      have := H.mine h hh k o hk
      exact ⟨this.1, by rw [B.block k (lt_of_heap this.2)]; exact this.2⟩
    apart := H.apart }

theorem Own.makes {K : Nat → Prop} {W0 w w' : World} {L : List Hl} {h : Hl} (H : Own K W0 w L) (M : Makes w w' h) : Own K W0 w' (L ++ [h]) :=
  { H.below M.below with
    mine := fun g hg k o hk => by
      rcases List.mem_append.1 hg with h1 | h1
      · exact (H.below M.below).mine g h1 k o hk
      · obtain rfl : g = h := by simpa using h1
        have := M.new k o hk
        exact ⟨fun hK => by have := H.bound k hK; have := H.size; omega, this.2⟩
    apart := by
      rw [List.pairwise_append]
      refine ⟨H.apart, List.pairwise_singleton _ _, fun a ha b hb k => ?_⟩
      obtain rfl : b = h := by simpa using hb
      cases hak : a k with
      | none => exact .inl rfl
      | some o =>
        right
        cases hbk : b k with
        | none => rfl
        | some o' =>
          have h1 := lt_of_heap (H.mine a ha k o hak).2
          have h2 := (M.new k o' hbk).1
          omega }

/-- At the begin of a call that makes: all that is there is kept. -/
theorem Own.begin (w : World) : Own (fun k => k < w.heap.size) w w [] := Own.start _ w fun _ h => h

theorem Own.toBelow {w w' : World} {L : List Hl} (H : Own (fun k => k < w.heap.size) w w' L) : Below w.heap.size w w' :=
  ⟨H.os, H.tape, H.output, H.size, H.keep⟩

theorem Own.toMakes {w w' : World} {L : List Hl} {h : Hl} (H : Own (fun k => k < w.heap.size) w w' L) {i : Nat} (hi : L[i]? = some h) : Makes w w' h :=
  ⟨H.toBelow, fun k o hk => by
    have := H.mine h (List.mem_of_getElem? hi) k o hk
    exact ⟨Nat.le_of_not_lt this.1, this.2⟩⟩

theorem Own.read {K : Nat → Prop} {W0 w : World} {L : List Hl} (H : Own K W0 w L) : ∀ k o, Kept K W0 k o → wR w k o := fun _ _ h => H.kept h
theorem Own.readAt {K : Nat → Prop} {W0 w : World} {L : List Hl} (H : Own K W0 w L) {i : Nat} {h : Hl} (hi : L[i]? = some h) : ∀ k o, h.rd k o → wR w k o := fun _ _ hk => H.heap hi hk

/-! ### Slots written out -/
theorem sl1 {e : Env} {a : Nat} {va : Value} (ha : e a = va) : e = upd e a va := (upd_self ha).symm
theorem sl2 {e : Env} {a b : Nat} {va vb : Value} (ha : e a = va) (hb : e b = vb) : e = upd (upd e a va) b vb := by rw [upd_self ha, upd_self hb]
theorem sl3 {e : Env} {a b c : Nat} {va vb vc : Value} (ha : e a = va) (hb : e b = vb) (hc : e c = vc) : e = upd (upd (upd e a va) b vb) c vc := by rw [upd_self ha, upd_self hb, upd_self hc]
theorem sl4 {e : Env} {a b c d : Nat} {va vb vc vd : Value} (ha : e a = va) (hb : e b = vb) (hc : e c = vc) (hd : e d = vd) : e = upd (upd (upd (upd e a va) b vb) c vc) d vd := by rw [upd_self ha, upd_self hb, upd_self hc, upd_self hd]
theorem sl5 {e : Env} {a b c d f : Nat} {va vb vc vd vf : Value} (ha : e a = va) (hb : e b = vb) (hc : e c = vc) (hd : e d = vd) (hf : e f = vf) : e = upd (upd (upd (upd (upd e a va) b vb) c vc) d vd) f vf := by rw [upd_self ha, upd_self hb, upd_self hc, upd_self hd, upd_self hf]
theorem sl6 {e : Env} {a b c d f g : Nat} {va vb vc vd vf vg : Value} (ha : e a = va) (hb : e b = vb) (hc : e c = vc) (hd : e d = vd) (hf : e f = vf) (hg : e g = vg) : e = upd (upd (upd (upd (upd (upd e a va) b vb) c vc) d vd) f vf) g vg := by rw [upd_self ha, upd_self hb, upd_self hc, upd_self hd, upd_self hf, upd_self hg]
theorem sl7 {e : Env} {a b c d f g i : Nat} {va vb vc vd vf vg vi : Value} (ha : e a = va) (hb : e b = vb) (hc : e c = vc) (hd : e d = vd) (hf : e f = vf) (hg : e g = vg) (hi : e i = vi) : e = upd (upd (upd (upd (upd (upd (upd e a va) b vb) c vc) d vd) f vf) g vg) i vi := by rw [upd_self ha, upd_self hb, upd_self hc, upd_self hd, upd_self hf, upd_self hg, upd_self hi]
theorem sl8 {e : Env} {a b c d f g i j : Nat} {va vb vc vd vf vg vi vj : Value} (ha : e a = va) (hb : e b = vb) (hc : e c = vc) (hd : e d = vd) (hf : e f = vf) (hg : e g = vg) (hi : e i = vi) (hj : e j = vj) : e = upd (upd (upd (upd (upd (upd (upd (upd e a va) b vb) c vc) d vd) f vf) g vg) i vi) j vj := by rw [upd_self ha, upd_self hb, upd_self hc, upd_self hd, upd_self hf, upd_self hg, upd_self hi, upd_self hj]

section
variable {P : Program} {n : Nat} {e : Env} {w : World} {ty t : TypeId} {x y : Operand}
/-- The address of an element of one cell. -/
theorem ev_ix {b o l k el : Nat} {ky : IntKind} {i : Nat} (hx : opv n e x = .slice (some ⟨b, o, none⟩) l k) (hy : opv n e y = .int ky (i : Nat)) (hu : P.underlying t = some (.slice el))
    (hs : (P.info? el).map (fun ti => ti.size) = some 1) (h1 : i < l) :
    Ev P (opv n e) (.indexAddr t x y) ty w (.pointer (some ⟨b, o + i, none⟩)) := by
  have := ev_index (P := P) (ty := ty) (w := w) hx hy hu hs (by omega) (by omega)
  rw [add_off] at this
  simpa using this
theorem ev_ixArr {b o l el : Nat} {ky : IntKind} {i : Nat} (hx : opv n e x = .pointer (some ⟨b, o, none⟩)) (hy : opv n e y = .int ky (i : Nat)) (hu : P.underlying t = some (.array l el))
    (hs : (P.info? el).map (fun ti => ti.size) = some 1) (h1 : i < l) :
    Ev P (opv n e) (.indexAddr t x y) ty w (.pointer (some ⟨b, o + i, none⟩)) := by
  have := ev_indexArr (P := P) (ty := ty) (w := w) hx hy hu hs (by omega) (by omega)
  rw [add_off] at this
  simpa using this
end

/-- All that was there is as it was. -/
structure Hold (w w' : World) : Prop where
  size : w.heap.size ≤ w'.heap.size
  heap : ∀ k, k < w.heap.size → w'.heap[k]? = w.heap[k]?
theorem hold_drew {w : World} : Hold w w.drew := ⟨Nat.le_refl _, fun _ _ => rfl⟩
theorem Hold.block {w w' : World} (h : Hold w w') {b : Nat} {o : Obj} (hb : w.heap[b]? = some o) : w'.heap[b]? = some o := by rw [h.heap b (lt_of_heap hb)]; exact hb
theorem Hold.cell {w w' : World} (h : Hold w w') {p : Addr} {v : Value} (hb : w.cell? p = some v) : w'.cell? p = some v := by
  rw [World.cell?_of_block (w := w) (h.heap p.block (World.block_lt_of_cell? w p hb))]; exact hb
theorem Hold.below {w w1 w2 : World} (h : Hold w w1) (B : Below w1.heap.size w1 w2) : Hold w w2 :=
  ⟨Nat.le_trans h.size B.size, fun k hk => (B.block k (Nat.lt_of_lt_of_le hk h.size)).trans (h.heap k hk)⟩
theorem below_drew {w w1 : World} (B : Below w.heap.size w w1) : Below w.heap.size w w1.drew := B.drew
theorem Below.cell {w w1 : World} (B : Below w.heap.size w w1) {p : Addr} {v : Value} (h : w.cell? p = some v) : w1.cell? p = some v :=
  Hold.cell ⟨B.size, B.block⟩ h
theorem Below.trans' {w w1 w2 : World} (B : Below w.heap.size w w1) (C : Below w1.heap.size w1 w2) : Below w.heap.size w w2 := B.trans (C.mono B.size)
theorem Below.rd {w w1 : World} (B : Below w.heap.size w w1) : ∀ k o, wR w k o → wR w1 k o := fun k o h => by
  unfold wR at *
  rw [B.block k (lt_of_heap h)]; exact h
theorem rd_drew {w : World} : ∀ k o, wR w k o → wR w.drew k o := fun _ _ h => h

section
variable {P : Program} {fn : Func} {n : Nat} {e : Env} {w : World} {t : Tmp} {R : Value → World → Prop}
theorem r_retc {ty : TypeId} {b o sz : Nat} {cs : Array Value} {tt : TypeId} {fz : Nat × Nat} {ds : TypeDesc} (hr : fn.results = #[.cell t ty]) (ht : Nat.blt t n = true) (hp : e t = .pointer (some ⟨b, o, none⟩))
    (hu : P.underlying ty = some ds) (hn : aggD ds = true) (hs : (P.info? ty).map (fun ti => ti.size) = some sz) (hb : w.heap[b]? = some (.cells cs tt fz)) (hle : o + sz ≤ cs.size)
    (h : R (.agg (cs.extract o (o + sz))) w) : bodyPost P fn (fun e' w' => ∃ v, e' = .returned v ∧ R v w') .ret (fr n e) w := by
  refine ⟨rfl, .agg (cs.extract o (o + sz)), ?_, _, rfl, h⟩
  have ha := run_isAgg (w := w) hu
  rw [hn] at ha
  have h1 : t < n := by simpa using ht
  have h2 : (fr n e).tmps.getD t undef = .pointer (some ⟨b, o, none⟩) := by simp [fr, h1, hp]
  have h3 : (fr n e).tmps[t]?.getD undef = .pointer (some ⟨b, o, none⟩) := by simpa using h2
  simp only [results, hr]
  simp [h3, asAddr, loadVar, ha, run_size hs, run_loadCells hb hle]
theorem splice_all {cs : Array Value} {vs : List Value} (h : vs.length = cs.size) : splice cs 0 vs = vs.toArray := by
  apply Array.ext'
  have : cs.toList.length = vs.length := by simp [h]
  simp [splice, List.drop_of_length_le (Nat.le_of_eq this)]
end
end Go.Proofs.YtgikfcmcgpcckaaGreatDoor.Sl
