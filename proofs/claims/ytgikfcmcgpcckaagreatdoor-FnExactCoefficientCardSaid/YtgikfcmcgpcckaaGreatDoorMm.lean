/- Cells read and written in owned blocks. A part of the proofs of FnExactDegree and FnExactCoefficient. -/
import Derived.Test.YtgikfcmcgpcckaaGreatDoorCd
namespace Go.Proofs.YtgikfcmcgpcckaaGreatDoor.Sl
open Go

theorem cell_of {w : World} {b o : Nat} {cs : Array Value} {t : TypeId} {fz : Nat × Nat} {v : Value} (h : w.heap[b]? = some (.cells cs t fz)) (hv : cs[o]? = some v) : w.cell? ⟨b, o, none⟩ = some v := by
  simp [World.cell?, h, hv]
theorem free_of {w : World} {b o : Nat} {cs : Array Value} {t : TypeId} (h : w.heap[b]? = some (.cells cs t (0, 0))) : w.frozen? ⟨b, o, none⟩ = false := by
  simp [World.frozen?, h]

theorem Own.put_at {K : Nat → Prop} {W0 w : World} {L : List Hl} {i : Nat} {h : Hl} (H : Own K W0 w L) (hi : L[i]? = some h) {b : Nat} {o o' : Obj} (hb : h b = some o) {w' : World}
    (hos : w'.os = w.os) (ht : w'.tape = w.tape) (hout : w'.output = w.output) (hsz : w.heap.size ≤ w'.heap.size) (hsame : ∀ k, k ≠ b → k < w.heap.size → w'.heap[k]? = w.heap[k]?) (hat : w'.heap[b]? = some o') :
    Own K W0 w' (L.set i (h.put b o')) := by
  obtain ⟨hlt, rfl⟩ := List.getElem?_eq_some_iff.1 hi
  rw [List.set_eq_take_append_cons_drop, if_pos hlt]
  refine Own.put (h := L[i]) ?_ hb hos ht hout hsz hsame hat
  rw [← List.drop_eq_getElem_cons hlt, List.take_append_drop]
  exact H

theorem heap_setCell_at {w : World} {b o : Nat} {cs : Array Value} {t : TypeId} {fz : Nat × Nat} {v : Value} (h : w.heap[b]? = some (.cells cs t fz)) :
    (w.setCell ⟨b, o, none⟩ v).heap[b]? = some (.cells (cs.setIfInBounds o v) t fz) := by
  simp only [World.setCell, Array.getElem?_modify, if_true, h, Option.map_some]
  simp

theorem Own.setCell {K : Nat → Prop} {W0 w : World} {L : List Hl} {i : Nat} {h : Hl} (H : Own K W0 w L) (hi : L[i]? = some h) {b o : Nat} {cs : Array Value} {t : TypeId} {fz : Nat × Nat} (hb : h b = some (.cells cs t fz)) (v : Value) :
    Own K W0 (w.setCell ⟨b, o, none⟩ v) (L.set i (h.put b (.cells (cs.setIfInBounds o v) t fz))) :=
  H.put_at hi hb rfl rfl rfl (by simp) (fun k hk _ => Go.RowKit.Below.heap_setCell _ _ _ _ hk) (heap_setCell_at (H.heap hi hb))

/-! ### Rows of cells, read and written -/
theorem add_off (b o i : Nat) : (⟨b, o, none⟩ : Addr).add i = ⟨b, o + i, none⟩ := by unfold Addr.add; split <;> simp_all

theorem run_loadCells {P : Program} {w : World} {b o n : Nat} {cs : Array Value} {t : TypeId} {fz : Nat × Nat} (h : w.heap[b]? = some (.cells cs t fz)) (hle : o + n ≤ cs.size) :
    (loadCells ⟨b, o, none⟩ n).run P w = .ok (cs.extract o (o + n)) w := by
  have hl : (cs.extract o (o + n)).toList.length = n := by simp; omega
  have := run_loadCells_list (P := P) w ⟨b, o, none⟩ (cs.extract o (o + n)).toList (fun j v hj => by
    rw [add_off]
    refine cell_of h ?_
    rw [Array.getElem?_toList, Array.getElem?_extract] at hj
    split at hj
    · exact hj
    · cases hj)
  rw [hl] at this
  rw [this]

/-- vs laid over cs from o on. -/
def splice (cs : Array Value) (o : Nat) (vs : List Value) : Array Value := (cs.toList.take o ++ vs ++ cs.toList.drop (o + vs.length)).toArray

theorem splice_size (cs : Array Value) (o : Nat) (vs : List Value) (h : o + vs.length ≤ cs.size) : (splice cs o vs).size = cs.size := by
  have h' : o + vs.length ≤ cs.toList.length := by simpa using h
  simp [splice]; omega

theorem splice_get (cs : Array Value) (o : Nat) (vs : List Value) (h : o + vs.length ≤ cs.size) (i : Nat) :
    (splice cs o vs)[i]? = if i < o then cs[i]? else if i < o + vs.length then vs[i - o]? else cs[i]? := by
  have h' : o + vs.length ≤ cs.toList.length := by simpa using h
  have ht : (cs.toList.take o).length = o := by simp; omega
  simp only [splice, List.getElem?_toArray]
  by_cases h1 : i < o
  · rw [if_pos h1, List.append_assoc, List.getElem?_append_left (by rw [ht]; exact h1), List.getElem?_take, if_pos h1]; simp
  · rw [if_neg h1, List.append_assoc, List.getElem?_append_right (by rw [ht]; omega), ht]
    by_cases h2 : i < o + vs.length
    · rw [if_pos h2, List.getElem?_append_left (by omega)]
    · rw [if_neg h2, List.getElem?_append_right (by omega), List.getElem?_drop]
      have : o + vs.length + (i - o - vs.length) = i := by omega
      rw [this]; simp

theorem splice_cons (cs : Array Value) (o : Nat) (v : Value) (vs : List Value) (h : o + (vs.length + 1) ≤ cs.size) : splice (cs.setIfInBounds o v) (o + 1) vs = splice cs o (v :: vs) := by
  apply Array.ext_getElem?
  intro i
  rw [splice_get _ _ _ (by simpa using by omega), splice_get _ _ _ (by simpa using by omega)]
  simp only [Array.getElem?_setIfInBounds, List.length_cons]
  by_cases h1 : i < o
  · rw [if_pos (by omega), if_pos h1, if_neg (by omega)]
  · rw [if_neg h1]
    by_cases h2 : i = o
    · subst h2
      rw [if_pos (by omega), if_pos (by omega), if_pos (by omega)]
      simp
    · rw [if_neg (by omega)]
      by_cases h3 : i < o + 1 + vs.length
      · rw [if_pos h3, if_pos (by omega)]
        have : i - o = (i - (o + 1)) + 1 := by omega
        rw [this, List.getElem?_cons_succ]
      · rw [if_neg h3, if_neg (by omega), if_neg (by omega)]

theorem splice_nil (cs : Array Value) (o : Nat) (h : o ≤ cs.size) : splice cs o [] = cs := by
  apply Array.ext_getElem?
  intro i
  rw [splice_get _ _ _ (by simpa using h)]
  simp only [List.length_nil, Nat.add_zero]
  split
  · rfl
  · rfl

theorem run_storeCells {P : Program} {K : Nat → Prop} {W0 : World} {L : List Hl} {i b : Nat} {t : TypeId} :
    ∀ (vs : List Value) (o j : Nat) (w : World) (h : Hl) (cs : Array Value), (∀ v ∈ vs, v.oneCell' = true) → Own K W0 w (L.set i h) → i < L.length → h b = some (.cells cs t (0, 0)) → o + j + vs.length ≤ cs.size →
      ∃ w', (storeCells ⟨b, o, none⟩ vs j).run P w = .ok () w' ∧ Own K W0 w' (L.set i (h.put b (.cells (splice cs (o + j) vs) t (0, 0)))) := by
  intro vs
  induction vs with
  | nil =>
    intro o j w h cs _ H hi hb hle
    refine ⟨w, by simp [storeCells, go_sem], ?_⟩
    rw [splice_nil _ _ (by simpa using hle)]
    have : h.put b (.cells cs t (0, 0)) = h := by
      funext k; unfold Hl.put; split
      · subst_vars; exact hb.symm
      · rfl
    rw [this]; exact H
  | cons v vs ih =>
    intro o j w h cs hone H hi hb hle
    simp only [List.length_cons] at hle
    have hset : (L.set i h)[i]? = some h := by simp [hi]
    have hheap := H.heap hset hb
    have hrun : (Go.store (⟨b, o + j, none⟩ : Addr) v).run P w = .ok () (w.setCell ⟨b, o + j, none⟩ v) := by
      have hc : w.cell? ⟨b, o + j, none⟩ = some (cs[o + j]'(by omega)) := cell_of hheap (by simp [Array.getElem?_eq_getElem (show o + j < cs.size by omega)])
      have hf : w.frozen? ⟨b, o + j, none⟩ = false := free_of hheap
      rw [run_store _ _ _ _ _ (hone v (by simp)), hc]
      simp [hf]
    have H2 := H.setCell hset (o := o + j) hb v
    rw [List.set_set] at H2
    have hput : ∀ o1 o2, (h.put b o1).put b o2 = h.put b o2 := fun o1 o2 => by
      funext k; unfold Hl.put; split <;> rfl
    obtain ⟨w', hr, H'⟩ := ih o (j + 1) _ _ _ (fun v hv => hone v (by simp [hv])) H2 hi (show (h.put b _) b = some (.cells (cs.setIfInBounds (o + j) v) t (0, 0)) by simp [Hl.put]) (by simp; omega)
    refine ⟨w', ?_, ?_⟩
    · simp only [storeCells, add_off, Sem.run_bind]
      rw [hrun]
      exact hr
    · rw [hput] at H'
      have := splice_cons cs (o + j) v vs (by omega)
      rw [Nat.add_assoc o j 1] at this
      rw [this] at H'
      exact H'
end Go.Proofs.YtgikfcmcgpcckaaGreatDoor.Sl
