/- The memory of natural numbers as rows of words. A part of the proofs of FnExactDegree and FnExactCoefficient. -/
import Derived.Test.YtgikfcmcgpcckaaGreatDoorEx
namespace Go.Proofs.YtgikfcmcgpcckaaGreatDoor.Sl
open Go Go.RowKit

def Wd (v : Value) : Prop := ∃ x : Int, 0 ≤ x ∧ v = .int .u64 x
def Words (cs : Array Value) : Prop := ∀ (i : Nat) (v : Value), cs[i]? = some v → Wd v
def WH (h : Hl) : Prop := ∀ b o, h b = some o → ∃ cs, o = .cells cs 98 (0, 0) ∧ Words cs
def Ext (h h' : Hl) : Prop := ∀ b cs, h b = some (.cells cs 98 (0, 0)) → ∃ cs', h' b = some (.cells cs' 98 (0, 0)) ∧ cs'.size = cs.size
/-- A number: n words in h. -/
def Nv (h : Hl) (v : Value) (n : Nat) : Prop := (v = .slice none 0 0 ∧ n = 0) ∨ ∃ b cs, v = .slice (some ⟨b, 0, none⟩) n cs.size ∧ h b = some (.cells cs 98 (0, 0)) ∧ n ≤ cs.size
structure Nst (h h' : Hl) : Prop where
  wh : WH h'
  ext : Ext h h'

theorem wrapU_nn (i : Int) : 0 ≤ IntKind.u64.wrap i := by rw [IntKind.wrap_u64]; omega
theorem wd_wrap (i : Int) : Wd (.int .u64 (IntKind.u64.wrap i)) := ⟨_, wrapU_nn i, rfl⟩
theorem wd_nat (i : Nat) : Wd (.int .u64 (i : Nat)) := ⟨_, by omega, rfl⟩
theorem bits2_and_nn (i j : Int) : 0 ≤ bits2 .and .u64 i j := wrapU_nn _
theorem bits2_or_nn (i j : Int) : 0 ≤ bits2 .or .u64 i j := wrapU_nn _
theorem Ext.refl (h : Hl) : Ext h h := fun _ cs hc => ⟨cs, hc, rfl⟩
theorem Ext.trans {a b c : Hl} (h : Ext a b) (g : Ext b c) : Ext a c := fun k cs hk => by
  obtain ⟨cs', h1, h2⟩ := h k cs hk
  obtain ⟨cs'', h3, h4⟩ := g k cs' h1
  exact ⟨cs'', h3, h4.trans h2⟩
theorem Nst.refl {h : Hl} (H : WH h) : Nst h h := ⟨H, .refl h⟩
theorem Nst.trans {a b c : Hl} (h : Nst a b) (g : Nst b c) : Nst a c := ⟨g.wh, h.ext.trans g.ext⟩
theorem Nv.ext {h h' : Hl} {v : Value} {n : Nat} (H : Nv h v n) (e : Ext h h') : Nv h' v n := by
  rcases H with ⟨h1, h2⟩ | ⟨b, cs, h1, h2, h3⟩
  · exact .inl ⟨h1, h2⟩
  · obtain ⟨cs', h4, h5⟩ := e b cs h2
    exact .inr ⟨b, cs', by rw [h5]; exact h1, h4, by rw [h5]; exact h3⟩
theorem Nv.st {h h' : Hl} {v : Value} {n : Nat} (H : Nv h v n) (s : Nst h h') : Nv h' v n := H.ext s.ext
theorem Nv.slice {h : Hl} {v : Value} {n : Nat} (H : Nv h v n) : ∃ p c, v = .slice p n c := by
  rcases H with ⟨h1, h2⟩ | ⟨b, cs, h1, h2, h3⟩
  · exact ⟨none, 0, by rw [h1, h2]⟩
  · exact ⟨_, _, h1⟩
/-- The first m words of a number. -/
theorem Nv.cut {h : Hl} {p : Option Addr} {n c m : Nat} (H : Nv h (.slice p n c) n) (hm : m ≤ c) : Nv h (.slice p m c) m := by
  rcases H with ⟨h1, h2⟩ | ⟨b, cs, h1, h2, h3⟩
  · cases h1
    obtain rfl : m = 0 := by omega
    exact .inl ⟨rfl, rfl⟩
  · cases h1
    exact .inr ⟨b, cs, rfl, h2, hm⟩
theorem Nv.capLe {h : Hl} {p : Option Addr} {n c : Nat} (H : Nv h (.slice p n c) n) : n ≤ c := by
  rcases H with ⟨h1, h2⟩ | ⟨b, cs, h1, h2, h3⟩
  · omega
  · cases h1; exact h3
theorem WH.emp : WH Hl.emp := fun _ _ h => by cases h
theorem WH.words {h : Hl} (H : WH h) {b : Nat} {cs : Array Value} {t : TypeId} {fz : Nat × Nat} (hb : h b = some (.cells cs t fz)) : Words cs := by
  obtain ⟨cs', h1, h2⟩ := H b _ hb
  cases h1; exact h2
theorem WH.put {h : Hl} (H : WH h) (b : Nat) {cs : Array Value} (hc : Words cs) : WH (h.put b (.cells cs 98 (0, 0))) := by
  intro k o hk
  unfold Hl.put at hk
  split at hk
  · cases hk; exact ⟨cs, rfl, hc⟩
  · exact H k o hk
theorem Ext.put {h : Hl} {b : Nat} {cs' : Array Value} (hb : ∀ o, h b = some o → ∃ cs, o = .cells cs 98 (0, 0) ∧ cs.size = cs'.size) : Ext h (h.put b (.cells cs' 98 (0, 0))) := by
  intro k c hk
  by_cases hkb : k = b
  · subst hkb
    obtain ⟨c2, h1, h2⟩ := hb _ hk
    cases h1
    exact ⟨cs', put_at _ _ _, h2.symm⟩
  · exact ⟨c, by simp [Hl.put, hkb, hk], rfl⟩
theorem Words.set {cs : Array Value} (H : Words cs) (i : Nat) {v : Value} (hv : Wd v) : Words (cs.setIfInBounds i v) := by
  intro j u hu
  rw [Array.getElem?_setIfInBounds] at hu
  split at hu
  · split at hu
    · cases hu; exact hv
    · cases hu
  · exact H j u hu
theorem Wd.one {v : Value} (h : Wd v) : v.oneCell' = true := by obtain ⟨x, _, rfl⟩ := h; rfl
theorem Words.replicate (n : Nat) {v : Value} (hv : Wd v) : Words (Array.replicate n v) := by
  intro i u hu
  rw [Array.getElem?_replicate] at hu
  split at hu
  · cases hu; exact hv
  · cases hu

section
variable {P : Program} {n : Nat} {e : Env} {w : World} {ty t t' : TypeId} {x y z : Operand} {K : Nat → Prop} {W0 : World} {L : List Hl} {i : Nat} {h : Hl}

theorem Own.word (H : Own K W0 w L) (hi : L[i]? = some h) (hw : WH h) {p : Option Addr} {l c j : Nat} (hv : Nv h (.slice p l c) l) (hj : j < l) :
    ∃ b u, p = some ⟨b, 0, none⟩ ∧ 0 ≤ u ∧ w.cell? ⟨b, 0 + j, none⟩ = some (.int .u64 u) := by
  rcases hv with ⟨h1, h2⟩ | ⟨b, cs, h1, h2, h3⟩
  · omega
  · cases h1
    have h4 : cs[j]? = some (cs[j]'(by omega)) := by simp
    obtain ⟨u, hu, hv⟩ := hw.words h2 _ _ h4
    refine ⟨b, u, rfl, hu, cell_of (H.heap hi h2) ?_⟩
    rw [Nat.zero_add, h4, hv]

theorem d_storeW (H : Own K W0 w L) (i : Nat) (hi : L[i]? = some h) (hw : WH h) {b l c j : Nat} {v : Value} (hv : Nv h (.slice (some ⟨b, 0, none⟩) l c) l) (hj : j < l)
    (hx : opv n e x = .pointer (some ⟨b, 0 + j, none⟩)) (hy : opv n e y = v) (hs : (P.info? t).map (fun ti => ti.size) = some 1) (hwd : Wd v) :
    Does P n e (.store t x y) ty w fun _ w' => ∃ h', Own K W0 w' (L.set i h') ∧ Nst h h' := by
  rcases hv with ⟨h1, h2⟩ | ⟨b, cs, h1, h2, h3⟩
  · cases h1
  · cases h1
    refine (d_store1 H i hi hx hy h2 hs hwd.one (by omega)).mono fun _ w' H' => ⟨_, H', (hw.put _ ((hw.words h2).set _ hwd)), .put fun o ho => ?_⟩
    rw [h2] at ho; cases ho
    exact ⟨cs, rfl, by simp⟩

theorem d_makeW {nn mm : Nat} {k1 k2 : IntKind} (H : Own K W0 w L) (i : Nat) (hi : L[i]? = some h) (hw : WH h) (hx : opv n e x = .int k1 (nn : Nat)) (hy : opv n e y = .int k2 (mm : Nat)) (hu : P.underlying t = some (.slice 98))
    (hinfo : (P.info? 98).map (fun ti => (ti.size, ti.bytes, ti.zero)) = some (1, 8, some (.int .u64 0))) (hle : nn ≤ mm) (hm : mm ≤ 35184372088832) :
    Does P n e (.makeSlice t x y) ty w fun v w' => ∃ h', Own K W0 w' (L.set i h') ∧ Nst h h' ∧ Nv h' v nn := by
  obtain ⟨ti, g1, g2, g3, g4⟩ := info_of hinfo
  have hbt : (ti.bytes : Int) * ((mm : Nat) : Int) ≤ 281474976710656 := by
    have h : ((8 * mm : Nat) : Int) ≤ 281474976710656 := by omega
    rw [g3]
    rwa [Int.natCast_mul] at h
  have hr := run_make (P := P) w t 98 ti _ hu g1 g4 k1 k2 nn mm (by omega) (by omega) hbt (by omega)
  have hmm : madeCells (Value.int .u64 0).cells ((mm : Int).toNat * ti.size) = Array.replicate mm (.int .u64 0) := by
    rw [g2]
    apply Array.ext'
    show (madeCells #[Value.int .u64 0] _).toList = _
    rw [toList_madeCells_one]
    simp
  rw [hmm] at hr
  have hfresh : h w.heap.size = none := by
    cases hh : h w.heap.size with
    | none => rfl
    | some o => have := lt_of_heap (H.heap hi hh); omega
  refine (d_run (w' := w.alloc (.cells (Array.replicate mm (.int .u64 0)) 98 (0, 0))) (v := .slice (some ⟨w.heap.size, 0, none⟩) nn mm) ?_).mono fun _ _ hh =>
    ⟨_, by rw [hh.2]; exact H.alloc_into hi _, ⟨hw.put _ (.replicate _ ⟨0, by omega, rfl⟩), .put fun o ho => by rw [hfresh] at ho; cases ho⟩, .inr ⟨w.heap.size, Array.replicate mm (.int .u64 0), by rw [hh.1]; simp, put_at _ _ _, by simpa using hle⟩⟩
  have e1 : execOp (opv n e) { dst := none, op := .makeSlice t x y, type := ty, pos := "", after := #[], guard := none } = (do pure (.value (← Instr.makeSlice t (opv n e x) (opv n e y)))) := rfl
  rw [e1, Sem.run_bind, hx, hy, hr]
  simp

/-- A number of one word, out of a literal. -/
theorem d_litW {v : Value} (H : Own K W0 w L) (i : Nat) (hi : L[i]? = some h) (hw : WH h) (hwd : Wd v)
    (hr : (execOp (opv n e) { dst := none, op := .buildSlice t 1 #[(0, x)], type := ty, pos := "", after := #[], guard := none }).run P w = .ok (.value (.slice (some ⟨w.heap.size, 0, none⟩) 1 1)) (w.alloc (.cells #[v] 98 (0, 0)))) :
    Does P n e (.buildSlice t 1 #[(0, x)]) ty w fun v' w' => ∃ h', Own K W0 w' (L.set i h') ∧ Nst h h' ∧ Nv h' v' 1 := by
  have hfresh : h w.heap.size = none := by
    cases hh : h w.heap.size with
    | none => rfl
    | some o => have := lt_of_heap (H.heap hi hh); omega
  refine (d_run hr).mono fun _ _ hh => ⟨_, by rw [hh.2]; exact H.alloc_into hi _, ⟨hw.put _ ?_, .put fun o ho => by rw [hfresh] at ho; cases ho⟩, .inr ⟨w.heap.size, #[v], by rw [hh.1]; rfl, put_at _ _ _, by simp⟩⟩
  exact Words.replicate 1 hwd

theorem d_appendW {p q : Option Addr} {m cm cq : Nat} (H : Own K W0 w L) (i : Nat) (hi : L[i]? = some h) (hw : WH h) (hx : opv n e x = .slice p m cm) (hy : opv n e y = .slice q 1 cq) (hp : Nv h (.slice p m cm) m) (hq : Nv h (.slice q 1 cq) 1)
    (hu : P.underlying t = some (.slice 98)) (hinfo : (P.info? 98).map (fun ti => (ti.size, ti.bytes, ti.zero)) = some (1, 8, some (.int .u64 0))) (hm : m ≤ 1000000) :
    Does P n e (.call { callee := .builtin .append, args := #[x, y], argTypes := #[t, t] }) ty w fun v w' => ∃ h', Own K W0 w' (L.set i h') ∧ Nst h h' ∧ Nv h' v (m + 1) := by
  rcases hq with ⟨h1, h2⟩ | ⟨sb, scs, h1, h2, h3⟩
  · omega
  · cases h1
    have hd : ∃ olds, DstOk h 98 p m cm olds ∧ ∀ v ∈ olds, Wd v := by
      rcases hp with ⟨h1, h4⟩ | ⟨b, cs, h1, h4, h5⟩
      · cases h1; exact ⟨[], .inl ⟨rfl, rfl, rfl, rfl⟩, by simp⟩
      · cases h1
        refine ⟨cs.toList.take m, .inr ⟨b, cs, rfl, h4, rfl, h5, rfl⟩, fun v hv => ?_⟩
        obtain ⟨j, hj⟩ := List.getElem?_of_mem (List.mem_of_mem_take hv)
        exact hw.words h4 j v (by simpa using hj)
    obtain ⟨olds, hd, hold⟩ := hd
    have hnew : ∀ v ∈ (scs.extract 0 (0 + 1)).toList, Wd v := fun v hv => by
      obtain ⟨j, hj⟩ := List.getElem?_of_mem hv
      rw [Array.getElem?_toList, Array.getElem?_extract] at hj
      split at hj
      · exact hw.words h2 _ v hj
      · cases hj
    refine (d_append (P := P) (ty := ty) (so := 0) (nn := 1) H i hi hx hy hu hinfo hd (H.heap hi h2) (by omega) (fun v hv => (hnew v hv).one) rfl (by omega) (by omega) (by omega)).mono ?_
    rintro _ w' ⟨b', cap', cs', h', rfl, H', G⟩
    have hcs : Words cs' := by
      intro j v hv
      by_cases hj : j < m + 1
      · have : v ∈ olds ++ (scs.extract 0 (0 + 1)).toList := by
          rw [← G.all]
          refine List.mem_of_getElem? (i := j) ?_
          rw [List.getElem?_take, if_pos hj]
          simpa using hv
        rcases List.mem_append.1 this with h6 | h6
        · exact hold v h6
        · exact hnew v h6
      · rcases G.spare j v (by omega) hv with ⟨cs, h6, h7⟩ | h6
        · exact hw.words h6 _ _ h7
        · have h7 : v ∈ [Value.int .u64 0] := h6
          rw [List.mem_singleton] at h7
          exact ⟨0, by omega, h7⟩
    have hput := G.put
    subst hput
    exact ⟨_, H', ⟨hw.put _ hcs, .put G.same⟩, .inr ⟨b', cs', by rw [G.size], put_at _ _ _, by rw [G.size]; exact G.le⟩⟩
end

theorem set_get {L : List Hl} {i : Nat} {h : Hl} (hi : L[i]? = some h) (g : Hl) : (L.set i g)[i]? = some g := by
  obtain ⟨hlt, _⟩ := List.getElem?_eq_some_iff.1 hi
  simp [hlt]
theorem set_self {L : List Hl} {i : Nat} {h : Hl} (hi : L[i]? = some h) : L.set i h = L := by
  obtain ⟨hlt, rfl⟩ := List.getElem?_eq_some_iff.1 hi
  simp
theorem Own.addEmp {K : Nat → Prop} {W0 w : World} {L : List Hl} (H : Own K W0 w L) : Own K W0 w (L ++ [Hl.emp]) :=
  { H with
    mine := fun h hh k o hk => by
      rcases List.mem_append.1 hh with h1 | h1
      · exact H.mine h h1 k o hk
      · obtain rfl : h = Hl.emp := by simpa using h1
        cases hk
    apart := by
      rw [List.pairwise_append]
      refine ⟨H.apart, List.pairwise_singleton _ _, fun a _ b hb => ?_⟩
      obtain rfl : b = Hl.emp := by simpa using hb
      exact disj_emp }
end Go.Proofs.YtgikfcmcgpcckaaGreatDoor.Sl
namespace Go.Proofs.YtgikfcmcgpcckaaGreatDoor.Sl
open Go
section
variable {P : Program} {fn : Func} {n : Nat} {e : Env} {w : World} {R : Value → World → Prop}
theorem r_fin (hr : fn.results = #[]) (h : R (.tuple #[]) w) : bodyPost P fn (fun e' w' => ∃ v, e' = .returned v ∧ R v w') .normal (fr n e) w := by
  refine ⟨rfl, .tuple #[], ?_, _, rfl, h⟩
  simp [results, hr]
theorem r_fin0 (hr : fn.results = #[]) (h : R (.tuple #[]) w) : bodyPost P fn (fun e' w' => ∃ v, e' = .returned v ∧ R v w') .ret (fr n e) w := by
  refine ⟨rfl, .tuple #[], ?_, _, rfl, h⟩
  simp [results, hr]
theorem r_ret3 {t u s : Tmp} (hr : fn.results = #[.tmp t, .tmp u, .tmp s]) (ht : Nat.blt t n = true) (hu : Nat.blt u n = true) (hs : Nat.blt s n = true) (h : R (.tuple #[e t, e u, e s]) w) : bodyPost P fn (fun e' w' => ∃ v, e' = .returned v ∧ R v w') .ret (fr n e) w := by
  refine ⟨rfl, _, ?_, _, rfl, h⟩
  have : t < n := by simpa using ht
  have : u < n := by simpa using hu
  have : s < n := by simpa using hs
  simp [results, fr, *]
theorem r_ret4 {t u s r : Tmp} (hr : fn.results = #[.tmp t, .tmp u, .tmp s, .tmp r]) (ht : Nat.blt t n = true) (hu : Nat.blt u n = true) (hs : Nat.blt s n = true) (h4 : Nat.blt r n = true) (h : R (.tuple #[e t, e u, e s, e r]) w) : bodyPost P fn (fun e' w' => ∃ v, e' = .returned v ∧ R v w') .ret (fr n e) w := by
  refine ⟨rfl, _, ?_, _, rfl, h⟩
  have : t < n := by simpa using ht
  have : u < n := by simpa using hu
  have : s < n := by simpa using hs
  have : r < n := by simpa using h4
  simp [results, fr, *]
end
section
variable {P : Program} {n : Nat} {e : Env} {w : World} {ty t t' : TypeId} {x y : Operand} {i j : Nat}
theorem ev_quoU (hx : opv n e x = .int .u64 (i : Nat)) (hy : opv n e y = .int .u64 (j : Nat)) (hj : 0 < j) (hi : i < 18446744073709551616) :
    Ev P (opv n e) (.binOp .quo t x y t') ty w (.int .u64 ((i / j : Nat) : Int)) := by
  have := ev_quo (P := P) (t := t) (t' := t') (ty := ty) (w := w) hx hy (by omega)
  have h2 : (i : Int).tdiv (j : Int) = ((i / j : Nat) : Int) := by rw [Int.tdiv_eq_ediv_of_nonneg (by omega)]; simp
  have h3 := Nat.div_le_self i j
  rwa [h2, wrapU _ (by omega)] at this
theorem ev_remU (hx : opv n e x = .int .u64 (i : Nat)) (hy : opv n e y = .int .u64 (j : Nat)) (hj : 0 < j) :
    Ev P (opv n e) (.binOp .rem t x y t') ty w (.int .u64 ((i % j : Nat) : Int)) := by
  have := ev_rem (P := P) (t := t) (t' := t') (ty := ty) (w := w) hx hy (by omega)
  have h2 : (i : Int).tmod (j : Int) = ((i % j : Nat) : Int) := by rw [Int.tmod_eq_emod_of_nonneg (by omega)]; simp
  rwa [h2] at this
theorem ev_shr1 {ky : IntKind} (hx : opv n e x = .int .i64 (i : Nat)) (hy : opv n e y = .int ky 1) :
    Ev P (opv n e) (.binOp .shr t x y t') ty w (.int .i64 ((i / 2 : Nat) : Int)) := by
  have := ev_shr (P := P) (t := t) (t' := t') (ty := ty) (w := w) hx hy (by omega)
  have e1 : ((i : Nat) : Int).fdiv (2 ^ (min (1 : Int).toNat IntKind.i64.bits)) = ((i / 2 : Nat) : Int) := by
    show ((i : Nat) : Int).fdiv 2 = _
    rw [Int.fdiv_eq_ediv_of_nonneg _ (by omega)]
    simp
  rwa [e1] at this
end
end Go.Proofs.YtgikfcmcgpcckaaGreatDoor.Sl
namespace Go.Proofs.YtgikfcmcgpcckaaGreatDoor.Sl
open Go
theorem hold_refl {w : World} : Hold w w := ⟨Nat.le_refl _, fun _ _ => rfl⟩
end Go.Proofs.YtgikfcmcgpcckaaGreatDoor.Sl
namespace Go.Proofs.YtgikfcmcgpcckaaGreatDoor.Sl
open Go
section
variable {P : Program} {n : Nat} {e : Env} {w : World} {ty t t' : TypeId} {x y : Operand} {i j k : Nat}
theorem ev_quoUv (hk : i / j = k) (hx : opv n e x = .int .u64 (i : Nat)) (hy : opv n e y = .int .u64 (j : Nat)) (hj : 0 < j) (hi : i < 18446744073709551616) :
    Ev P (opv n e) (.binOp .quo t x y t') ty w (.int .u64 (k : Nat)) := hk ▸ ev_quoU hx hy hj hi
theorem ev_remUv (hk : i % j = k) (hx : opv n e x = .int .u64 (i : Nat)) (hy : opv n e y = .int .u64 (j : Nat)) (hj : 0 < j) :
    Ev P (opv n e) (.binOp .rem t x y t') ty w (.int .u64 (k : Nat)) := hk ▸ ev_remU hx hy hj
end
end Go.Proofs.YtgikfcmcgpcckaaGreatDoor.Sl
