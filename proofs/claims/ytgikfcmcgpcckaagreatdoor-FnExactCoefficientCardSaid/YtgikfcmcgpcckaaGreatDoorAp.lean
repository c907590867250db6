/- append, copy and make in owned memory. A part of the proofs of FnExactDegree and FnExactCoefficient. -/
import Derived.Test.YtgikfcmcgpcckaaGreatDoorSt
namespace Go.Proofs.YtgikfcmcgpcckaaGreatDoor.Sl
open Go

section
variable {P : Program} {l : List Oper} {Q : Exit → Act → World → Prop} {n : Nat} {e : Env} {w : World} {rest : List Oper} {d : Nat} {op : Op} {ty t t2 : TypeId} {pos : String} {af : Array Edge} {v : Value} {x y : Operand}
variable {K : Nat → Prop} {W0 : World} {L : List Hl}

theorem Own.alloc_into (H : Own K W0 w L) {i : Nat} {h : Hl} (hi : L[i]? = some h) (o : Obj) : Own K W0 (w.alloc o) (L.set i (h.put w.heap.size o)) := by
  obtain ⟨hlt, rfl⟩ := List.getElem?_eq_some_iff.1 hi
  have e1 : L = L.take i ++ L[i] :: L.drop (i + 1) := by rw [← List.drop_eq_getElem_cons hlt, List.take_append_drop]
  rw [List.set_eq_take_append_cons_drop, if_pos hlt]
  have H1 : Own K W0 w (L[i] :: (L.take i ++ L.drop (i + 1))) := by
    refine H.perm ?_
    conv => lhs; rw [e1]
    exact List.perm_middle
  have H2 := (H1.alloc o).join
  have e2 : (Hl.one w.heap.size o).or L[i] = L[i].put w.heap.size o := by
    funext k
    unfold Hl.or Hl.one Hl.put
    by_cases hk : k = w.heap.size <;> simp [hk]
  rw [e2] at H2
  exact H2.perm List.perm_middle.symm

/-- What a slice that is appended to stands for. -/
def DstOk (h : Hl) (el : TypeId) (db : Option Addr) (dl dc : Nat) (olds : List Value) : Prop :=
  (db = none ∧ dl = 0 ∧ dc = 0 ∧ olds = []) ∨
  ∃ b cs, db = some ⟨b, 0, none⟩ ∧ h b = some (.cells cs el (0, 0)) ∧ cs.size = dc ∧ dl ≤ dc ∧ olds = cs.toList.take dl

/-- The slice behind an append. -/
structure Grew (h h' : Hl) (b' : Nat) (el : TypeId) (len cap : Nat) (cs' : Array Value) (all : List Value) (z : Value) : Prop where
  same : ∀ o, h b' = some o → ∃ cs, o = .cells cs el (0, 0) ∧ cs.size = cs'.size
  spare : ∀ j v, len ≤ j → cs'[j]? = some v → (∃ cs, h b' = some (.cells cs el (0, 0)) ∧ cs[j]? = some v) ∨ v ∈ z.cells.toList
  put : h' = h.put b' (.cells cs' el (0, 0))
  size : cs'.size = cap
  le : len ≤ cap
  all : cs'.toList.take len = all
  old : ∀ k o, h k = some o → k ≠ b' → h' k = some o

theorem info_of {el sz bt : Nat} {z : Value} (hi : (P.info? el).map (fun ti => (ti.size, ti.bytes, ti.zero)) = some (sz, bt, some z)) :
    ∃ ti, P.info? el = some ti ∧ ti.size = sz ∧ ti.bytes = bt ∧ ti.zero = some z := by
  cases h : P.info? el with
  | none => rw [h] at hi; cases hi
  | some ti => rw [h] at hi; simp only [Option.map_some, Option.some.injEq, Prod.mk.injEq] at hi; exact ⟨ti, rfl, hi.1, hi.2.1, hi.2.2⟩

theorem run_append {el bt nn dl dc sb so sc : Nat} {z : Value} {db : Option Addr} {olds : List Value} {scs : Array Value} {st : TypeId} {sfz : Nat × Nat} {h : Hl} {i : Nat} (H : Own K W0 w L) (hi : L[i]? = some h)
    (hu : P.underlying t = some (.slice el))
    (hinfo : (P.info? el).map (fun ti => (ti.size, ti.bytes, ti.zero)) = some (1, bt, some z))
    (hd : DstOk h el db dl dc olds) (hs : w.heap[sb]? = some (.cells scs st sfz)) (hle : so + nn ≤ scs.size) (hone : ∀ v ∈ (scs.extract so (so + nn)).toList, v.oneCell' = true)
    (hzc : z.cells.size = 1) (h0 : 0 < nn) (hfit : (dl + nn) * bt ≤ 140737488355328) (h63 : dl + nn ≤ 9223372036854775807) :
    ∃ w' b' cap' cs' h', (Builtin.append_ #[t, t] ty #[.slice db dl dc, .slice (some ⟨sb, so, none⟩) nn sc]).run P w = .ok (.slice (some ⟨b', 0, none⟩) (dl + nn) cap') w' ∧
      Grew h h' b' el (dl + nn) cap' cs' (olds ++ (scs.extract so (so + nn)).toList) z ∧ Own K W0 w' (L.set i h') := by
  obtain ⟨ti, g1, g2, g3, g4⟩ := info_of hinfo
  obtain ⟨hlt, rfl⟩ := List.getElem?_eq_some_iff.1 hi
  have hnl : (scs.extract so (so + nn)).toList.length = nn := by simp; omega
  have hnews : ∀ j v, (scs.extract so (so + nn)).toList[j]? = some v → w.cell? ((⟨sb, so, none⟩ : Addr).add j) = some v := fun j v hj => by
    rw [add_off]
    refine cell_of hs ?_
    rw [Array.getElem?_toList, Array.getElem?_extract] at hj
    split at hj
    · exact hj
    · cases hj
  by_cases hfits : dl + nn ≤ dc
  · rcases hd with ⟨_, h1, h2, _⟩ | ⟨b, cs, rfl, hb, hsz, hle2, rfl⟩
    · omega
    · have hheap := H.heap hi hb
      have hr := run_append_room (P := P) w t ty el ti hu g1 b dl dc cs hheap ⟨sb, so, none⟩ nn sc _ (by rw [hnl, g2, Nat.mul_one]) hnews hone hfits (by rw [hnl, g2]; omega)
      have hcl : cs.toList.length = dc := by simpa using hsz
      rw [g2, Nat.mul_one, hnl] at hr
      refine ⟨_, b, dc, (cs.toList.take dl ++ (scs.extract so (so + nn)).toList ++ cs.toList.drop (dl + nn)).toArray, _, hr, ⟨fun o ho => ?_, fun j v hj hv => .inl ⟨cs, hb, ?_⟩, rfl, ?_, hfits, ?_, ?_⟩, ?_⟩
      · rw [hb] at ho; cases ho; refine ⟨cs, rfl, ?_⟩
        simp only [List.size_toArray, List.length_append, List.length_take, List.length_drop, hnl, hcl, hsz]; omega
      · have e2 : cs.toList.take dl ++ (scs.extract so (so + nn)).toList = (cs.toList.take dl ++ (scs.extract so (so + nn)).toList) := rfl
        rw [List.getElem?_toArray, List.getElem?_append_right (by simp only [List.length_append, List.length_take, hnl, hcl]; omega), List.getElem?_drop] at hv
        simp only [List.length_append, List.length_take, hnl, hcl] at hv
        rw [show dl + nn + (j - (min dl dc + nn)) = j by omega] at hv
        simpa using hv
      · simp only [List.size_toArray, List.length_append, List.length_take, List.length_drop, hnl, hcl]; omega
      · rw [List.take_left']
        simp only [List.length_append, List.length_take, hnl, hcl]; omega
      · intro k o hk hne; simp [Hl.put, hne, hk]
      · exact H.put_at hi hb rfl rfl rfl (by simp) (fun k hk _ => setRow_other w b k _ hk) (setRow_heap w b cs _ el _ hheap)
  · have hcap : dl + nn ≤ grownCap w (dl + nn) dc el := by unfold grownCap Question.cut; exact Nat.le_add_right _ _
    have hgf : Builtin.nextslicecap (dl + nn) dc * ti.bytes ≤ 281474976710656 := by rw [g3]; exact growslice_fits (by omega) hfit
    have key : ∀ (olds : List Value), olds.length = dl → (Builtin.append_ #[t, t] ty #[.slice db dl dc, .slice (some ⟨sb, so, none⟩) nn sc]).run P w =
        .ok (.slice (some ⟨w.heap.size, 0, none⟩) (dl + nn) (grownCap w (dl + nn) dc el)) (w.drew.alloc (.cells (olds.toArray ++ (scs.extract so (so + nn)).toList.toArray ++ Builtin.zeroCells z.cells (grownCap w (dl + nn) dc el - (dl + nn))) el)) →
        ∃ w' b' cap' cs' h', (Builtin.append_ #[t, t] ty #[.slice db dl dc, .slice (some ⟨sb, so, none⟩) nn sc]).run P w = .ok (.slice (some ⟨b', 0, none⟩) (dl + nn) cap') w' ∧
      Grew L[i] h' b' el (dl + nn) cap' cs' (olds ++ (scs.extract so (so + nn)).toList) z ∧ Own K W0 w' (L.set i h') := by
      intro olds hol hr
      have hfresh : L[i] w.heap.size = none := by
        cases hh : L[i] w.heap.size with
        | none => rfl
        | some o => have := lt_of_heap (H.heap hi hh); omega
      refine ⟨_, _, _, (olds.toArray ++ (scs.extract so (so + nn)).toList.toArray ++ Builtin.zeroCells z.cells (grownCap w (dl + nn) dc el - (dl + nn))), _, hr, ⟨fun o ho => (by rw [hfresh] at ho; cases ho), fun j v hj hv => .inr ?_, rfl, ?_, hcap, ?_, ?_⟩, (H.drew).alloc_into hi _⟩
      · have hv2 := Array.mem_of_getElem? hv
        rw [Array.getElem?_append_right (by simp [hol]; omega)] at hv
        have hv3 := Array.mem_of_getElem? hv
        simp only [Builtin.zeroCells, Array.mem_map] at hv3
        obtain ⟨q, _, rfl⟩ := hv3
        have hq : q % z.cells.size < z.cells.size := Nat.mod_lt _ (by omega)
        rw [getElem!_pos z.cells (q % z.cells.size) hq]
        simp
      · have hz1 : (Builtin.zeroCells z.cells (grownCap w (dl + nn) dc el - (dl + nn))).size = (grownCap w (dl + nn) dc el - (dl + nn)) * z.cells.size := by simp [Builtin.zeroCells]
        simp only [Array.size_append, List.size_toArray, hnl, hol, hz1, hzc]
        omega
      · simp only [Array.toList_append]
        rw [List.take_left']
        simp [hol]; omega
      · intro k o hk hne; simp [Hl.put, hne, hk]
    rcases hd with ⟨rfl, rfl, rfl, rfl⟩ | ⟨b, cs, rfl, hb, hsz, hle2, rfl⟩
    · refine key [] rfl ?_
      have := run_append_nil (P := P) w t ty el ti z hu g1 g4 ⟨sb, so, none⟩ nn sc _ (by rw [hnl, g2, Nat.mul_one]) hnews h0 (by omega) (by rw [g3]; rw [Nat.zero_add] at hfit; omega)
      rw [this]
      simp
    · refine key _ (by simp; omega) ?_
      have hheap := H.heap hi hb
      exact run_append_grow (P := P) w t ty el ti z hu g1 g4 ⟨b, 0, none⟩ dl dc _ (by rw [g2]; simp; omega) (fun j v hj => by
        rw [add_off]
        refine cell_of hheap ?_
        rw [List.getElem?_take] at hj
        split at hj
        · simpa using hj
        · cases hj) ⟨sb, so, none⟩ nn sc _ (by rw [hnl, g2, Nat.mul_one]) hnews (by omega) (by omega) hgf

theorem d_append {el bt nn dl dc sb so sc : Nat} {z : Value} {db : Option Addr} {olds : List Value} {scs : Array Value} {st : TypeId} {sfz : Nat × Nat} {h : Hl} (H : Own K W0 w L) (i : Nat) (hi : L[i]? = some h)
    (hx : opv n e x = .slice db dl dc) (hy : opv n e y = .slice (some ⟨sb, so, none⟩) nn sc)
    (hu : P.underlying t = some (.slice el))
    (hinfo : (P.info? el).map (fun ti => (ti.size, ti.bytes, ti.zero)) = some (1, bt, some z))
    (hd : DstOk h el db dl dc olds) (hs : w.heap[sb]? = some (.cells scs st sfz)) (hle : so + nn ≤ scs.size) (hone : ∀ v ∈ (scs.extract so (so + nn)).toList, v.oneCell' = true)
    (hzc : z.cells.size = 1) (h0 : 0 < nn) (hfit : (dl + nn) * bt ≤ 140737488355328) (h63 : dl + nn ≤ 9223372036854775807) :
    Does P n e (.call { callee := .builtin .append, args := #[x, y], argTypes := #[t, t] }) ty w fun v w' =>
      ∃ b' cap' cs' h', v = .slice (some ⟨b', 0, none⟩) (dl + nn) cap' ∧ Own K W0 w' (L.set i h') ∧ Grew h h' b' el (dl + nn) cap' cs' (olds ++ (scs.extract so (so + nn)).toList) z := by
  obtain ⟨w', b', cap', cs', h', hr, hg, H'⟩ := run_append (P := P) (ty := ty) H hi hu hinfo hd hs hle hone hzc h0 hfit h63
  refine (d_run (w' := w') (v := .slice (some ⟨b', 0, none⟩) (dl + nn) cap') ?_).mono fun _ _ h => ⟨b', cap', cs', h', h.1, by rw [h.2]; exact H', hg⟩
  have e1 : execOp (opv n e) { dst := none, op := .call { callee := .builtin .append, args := #[x, y], argTypes := #[t, t] }, type := ty, pos := "", after := #[], guard := none } =
      (do pure (.value (← Builtin.append_ #[t, t] ty (#[x, y].map (opv n e))))) := rfl
  rw [e1, Sem.run_bind]
  have e2 : #[x, y].map (opv n e) = #[.slice db dl dc, .slice (some ⟨sb, so, none⟩) nn sc] := by simp [hx, hy]
  rw [e2, hr]
  rfl

theorem d_copy {el dl dc nn so sb sc o b dsz : Nat} {scs cs : Array Value} {tt st : TypeId} {sfz : Nat × Nat} {h : Hl} (H : Own K W0 w L) (i : Nat) (hi : L[i]? = some h)
    (hx : opv n e x = .slice (some ⟨b, o, none⟩) dl dc) (hy : opv n e y = .slice (some ⟨sb, so, none⟩) nn sc) (hu : P.underlying t = some (.slice el))
    (hsz : (P.info? el).map (fun ti => ti.size) = some 1)
    (hb : h b = some (.cells cs tt (0, 0))) (hs : w.heap[sb]? = some (.cells scs st sfz)) (hm : Nat.min nn dl = dsz) (hle : so + dsz ≤ scs.size) (hle2 : o + dsz ≤ cs.size)
    (hone : ∀ v ∈ (scs.extract so (so + dsz)).toList, v.oneCell' = true) :
    Does P n e (.call { callee := .builtin .copy, args := #[x, y], argTypes := #[t, t2] }) ty w fun v w' =>
      v = .int .i64 dsz ∧ Own K W0 w' (L.set i (h.put b (.cells (splice cs o (scs.extract so (so + dsz)).toList) tt (0, 0)))) := by
  obtain ⟨hlt, rfl⟩ := List.getElem?_eq_some_iff.1 hi
  have hnl : (scs.extract so (so + dsz)).toList.length = dsz := by simp; omega
  have hheap := H.heap hi hb
  have hr := run_copy_row (P := P) w t t2 ty el b o dl dc ⟨sb, so, none⟩ nn sc cs tt (scs.extract so (so + dsz)).toList hu hsz hheap (by rw [hnl, hm]) (fun j v hj => by
    rw [add_off]
    refine cell_of hs ?_
    rw [Array.getElem?_toList, Array.getElem?_extract] at hj
    split at hj
    · exact hj
    · cases hj) (by rw [hnl]; omega) hone
  refine (d_run (w' := w.setRow b (cs.toList.take o ++ (scs.extract so (so + dsz)).toList ++ cs.toList.drop (o + (scs.extract so (so + dsz)).toList.length)).toArray) (v := .int .i64 dsz) ?_).mono fun _ _ h => ⟨h.1, by rw [h.2]; exact H.put_at hi hb rfl rfl rfl (by simp) (fun k hk _ => setRow_other w b k _ hk) (setRow_heap w b cs _ tt _ hheap)⟩
  have e1 : execOp (opv n e) { dst := none, op := .call { callee := .builtin .copy, args := #[x, y], argTypes := #[t, t2] }, type := ty, pos := "", after := #[], guard := none } =
      (do pure (.value (← Builtin.copy_ #[t, t2] ty (#[x, y].map (opv n e))))) := rfl
  rw [e1, Sem.run_bind]
  have e2 : #[x, y].map (opv n e) = #[.slice (some ⟨b, o, none⟩) dl dc, .slice (some ⟨sb, so, none⟩) nn sc] := by simp [hx, hy]
  rw [e2]
  rw [hr, Result.andThen_ok]
  simp only [hnl]
  rfl

/-- A new slice of n elements of one cell each, at their zero. -/
theorem d_make {el bt nn : Nat} {z : Value} {k1 k2 : IntKind} (H : Own K W0 w L) (hx : opv n e x = .int k1 (nn : Nat)) (hy : opv n e y = .int k2 (nn : Nat)) (hu : P.underlying t = some (.slice el))
    (hinfo : (P.info? el).map (fun ti => (ti.size, ti.bytes, ti.zero)) = some (1, bt, some z)) (hz : z.cells = #[z]) (hfit : bt * nn ≤ 281474976710656) (h63 : nn ≤ 9223372036854775807) :
    Does P n e (.makeSlice t x y) ty w fun v w' => ∃ b, v = .slice (some ⟨b, 0, none⟩) nn nn ∧ Own K W0 w' (L ++ [Hl.one b (.cells (Array.replicate nn z) el (0, 0))]) := by
  obtain ⟨ti, g1, g2, g3, g4⟩ := info_of hinfo
  have hbt : (ti.bytes : Int) * ((nn : Nat) : Int) ≤ 281474976710656 := by
    have h : ((bt * nn : Nat) : Int) ≤ 281474976710656 := by omega
    rw [g3]
    rwa [Int.natCast_mul] at h
  have hr := run_make (P := P) w t el ti z hu g1 g4 k1 k2 nn nn (by omega) (by omega) hbt (by omega)
  have hm : madeCells z.cells ((nn : Int).toNat * ti.size) = Array.replicate nn z := by
    rw [hz, g2]
    apply Array.ext'
    rw [toList_madeCells_one]
    simp
  rw [hm] at hr
  refine (d_run (w' := w.alloc (.cells (Array.replicate nn z) el (0, 0))) (v := .slice (some ⟨w.heap.size, 0, none⟩) nn nn) ?_).mono fun _ _ h => ⟨_, h.1, by rw [h.2]; exact H.alloc_end _⟩
  have e1 : execOp (opv n e) { dst := none, op := .makeSlice t x y, type := ty, pos := "", after := #[], guard := none } = (do pure (.value (← Instr.makeSlice t (opv n e x) (opv n e y)))) := rfl
  rw [e1, Sem.run_bind, hx, hy, hr]
  simp
end
end Go.Proofs.YtgikfcmcgpcckaaGreatDoor.Sl
