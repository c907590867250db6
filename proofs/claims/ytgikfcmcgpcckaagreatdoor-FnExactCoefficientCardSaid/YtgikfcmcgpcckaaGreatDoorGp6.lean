/- Walks through functions of the program: each call comes to what its theorem says. A part of the proofs of FnExactDegree and FnExactCoefficient. -/
import Derived.Test.YtgikfcmcgpcckaaGreatDoorGp5
namespace Go.Proofs.YtgikfcmcgpcckaaGreatDoor
open Go Go.RowKit Sl

/-- A slice of scalars that may be read. -/
def SclsR (R : Rd) (c : Int) (v : Value) (rows : List (List Nat)) : Prop :=
  (∃ k, v = .slice none 0 k ∧ rows = []) ∨
  ∃ b o k cs t fz, v = .slice (some ⟨b, o, none⟩) rows.length k ∧ R b (.cells cs t fz) ∧ ∀ i bs, rows[i]? = some bs → ∃ u, cs[o + i]? = some u ∧ Scl R c u bs
theorem SclsR.mono {R R' : Rd} {c : Int} {v : Value} {rows : List (List Nat)} (h : ∀ k o, R k o → R' k o) : SclsR R c v rows → SclsR R' c v rows
  | .inl x => .inl x
  | .inr ⟨b, o, k, cs, t, fz, h1, h2, h3⟩ => .inr ⟨b, o, k, cs, t, fz, h1, h _ _ h2, fun i bs hi => let ⟨u, h4, h5⟩ := h3 i bs hi; ⟨u, h4, h5.mono h⟩⟩
theorem SclsR.slice {R : Rd} {c : Int} {v : Value} {rows : List (List Nat)} (h : SclsR R c v rows) : ∃ p k, v = .slice p rows.length k := by
  rcases h with ⟨k, rfl, rfl⟩ | ⟨b, o, k, cs, t, fz, rfl, _⟩ <;> exact ⟨_, _, rfl⟩
theorem SclsR.at {R : Rd} {c : Int} {p : Option Addr} {k len : Nat} {rows : List (List Nat)} (h : SclsR R c (.slice p len k) rows) {i : Nat} {bs : List Nat} (hi : rows[i]? = some bs) :
    ∃ b o cs t fz u, p = some ⟨b, o, none⟩ ∧ R b (.cells cs t fz) ∧ cs[o + i]? = some u ∧ Scl R c u bs := by
  rcases h with ⟨k, h1, rfl⟩ | ⟨b, o, k, cs, t, fz, h1, h2, h3⟩
  · simp at hi
  · cases h1
    obtain ⟨u, h4, h5⟩ := h3 i bs hi
    exact ⟨b, o, cs, t, fz, u, rfl, h2, h4, h5⟩

theorem Un.left {R : Rd} {h : Hl} : ∀ k o, R k o → Un R h k o := fun _ _ x => .inl x
theorem Un.or1 {R : Rd} {h g : Hl} : ∀ k o, Un R h k o → Un R (h.or g) k o := fun _ _ x => x.elim .inl fun y => .inr (Hl.or_left y)
theorem Un.or2 {R : Rd} {h g : Hl} (d : h.disj g) : ∀ k o, Un R g k o → Un R (h.or g) k o := fun _ _ x => x.elim .inl fun y => .inr (Hl.or_right d y)

section
variable {w : World}

theorem zScalarsOf {c : Int} {cv od v : Value} {rows : List (List Nat)} (hg : Grp (wR w) c cv od) (hr : RowsR (wR w) v rows) (hs : ∀ r ∈ rows, isSc c r = true) (hb : ∀ r ∈ rows, ∀ b ∈ r, b < 256) (hm : rows.length ≤ 1000) :
    Calls Tryz.prog 15 #[.iface 71 (.agg #[cv, od]), v] w fun e w' => ∃ u, e = .returned u ∧ (SclsR (wR w') c u rows ∧ Below w.heap.size w w') := by
  obtain ⟨p, k, rfl⟩ := hr.slice
  refine bodyW (n := 23) (args := [.iface 71 (.agg #[cv, od]), .slice p rows.length k]) Tryz.func15 rfl rfl rfl ?_
  refine c_seqW ?_
  refine c_regionW ?_
  refine s_valW ev_assign ?_
  refine s_nilW ?_
  refine x_norm ?_
  refine c_seqW ?_
  refine c_regionW ?_
  refine s_effW (d_buildSlice (len := 0) (el := 45) (cs := #[]) (Own.begin w) (by kernel_rfl)) ?_
  rintro _ w1 ⟨b0, rfl, H1⟩
  have H1 : Own (fun k => k < w.heap.size) w w1 [Hl.one b0 (.cells #[] 45 (0, 0)), Hl.emp] := H1.addEmp
  refine s_valW ev_assign ?_
  refine s_nilW ?_
  refine x_norm ?_
  refine c_seqW ?_
  refine c_seqW ?_
  refine c_regionW ?_
  refine s_valW ev_move ?_
  refine s_valW (ev_len_slice rfl Tryz.underlying22) ?_
  refine s_valW ev_move ?_
  refine s_nilW ?_
  refine x_norm ?_
  refine c_blockW ?_
  refine c_loopW (α := Nat) (fun i e w' => i ≤ rows.length ∧ ∃ b cap cs hs hx e0, Own (fun k => k < w.heap.size) w w' [hs, hx] ∧ hs b = some (.cells cs 45 (0, 0)) ∧ cs.size = cap ∧ i ≤ cap ∧ (∀ j r, j < i → rows[j]? = some r → ∃ u, cs[j]? = some u ∧ Scl (Un (wR w) hx) c u r) ∧ e = upd (upd (upd (upd (upd e0 0 (.iface 71 (.agg #[cv, od]))) 5 (.slice (some ⟨b, 0, none⟩) i cap)) 9 (.slice p rows.length k)) 10 (.int .i64 rows.length)) 11 (.int .i64 (i : Nat))) (fun i => rows.length - i) 0 (by exact ⟨by omega, b0, 0, #[], _, _, _, H1, one_at _ _, rfl, by omega, fun j r h => by omega, sl5 rfl rfl rfl rfl rfl⟩) ?_
  rintro i e w2 ⟨hi, b, cap, cs, hs0, hx, e, H2, hb2, hcs, hic, hall, rfl⟩
  refine c_seqW ?_
  refine c_regionW ?_
  refine s_valW (ev_lt rfl rfl) ?_
  refine s_nilW ?_
  refine x_norm ?_
  refine c_seqW ?_
  refine c_ifW rfl (fun hlt => ?_) (fun hlt => ?_)
  · refine c_skipW ?_
    refine x_norm ?_
    refine c_seqW ?_
    refine c_blockW ?_
    refine c_seqW ?_
    refine c_regionW ?_
    have hil : i < rows.length := by omega
    have hri : rows[i]? = some rows[i] := by simp
    obtain ⟨rb, ro, ru, rfl, hc2, hu⟩ := hr.at hri
    have hc2 := Sl.Below.cell H2.toBelow hc2
    refine s_valW (ev_ix rfl rfl Tryz.underlying22 Tryz.szT29 (by omega)) ?_
    refine s_valW (ev_load rfl Tryz.underlying29 rfl hc2) ?_
    refine s_valW ev_assign ?_
    refine s_nilW ?_
    refine x_norm ?_
    refine c_regionW ?_
    refine s_valW ev_move ?_
    refine s_valW ev_move ?_
    refine s_valW ev_move ?_
    refine s_effW (d_call Tryz.call23 (zScalarOf (Sl.Below.rd H2.toBelow) hg hu (hs _ (List.mem_of_getElem? hri)) (hb _ (List.mem_of_getElem? hri)))) ?_
    rintro _ w3 ⟨hn, M, hS⟩
    have H3 : Own (fun k => k < w.heap.size) w w3 [hs0, hx, hn] := H2.makes M
    have hd3 : hx.disj hn := (List.pairwise_cons.1 (List.pairwise_cons.1 H3.apart).2).1 _ (by simp)
    have H4 : Own (fun k => k < w.heap.size) w w3 [hx.or hn, hs0] := (H3.perm (List.Perm.trans (List.Perm.swap _ _ _) (List.Perm.cons _ (List.Perm.swap _ _ _)))).join
    have H5 : Own (fun k => k < w.heap.size) w w3 [hs0, hx.or hn] := H4.perm (List.Perm.swap _ _ _)
    have hS2 := hS
    obtain ⟨nb, ncv, nod, nkv, rfl, _⟩ := hS2
    refine s_effW (d_buildSlice (len := 1) (el := 45) (cs := #[.iface 159 (.pointer (some ⟨nb, 0, none⟩))]) H5 (by kernel_rfl)) ?_
    rintro _ w4 ⟨b4, rfl, H6⟩
    refine s_effW (d_append (nn := 1) (dl := i) (olds := cs.toList.take i) H6 0 rfl rfl rfl Tryz.underlying34 Tryz.infT45 (.inr ⟨b, cs, rfl, hb2, hcs, hic, rfl⟩) (H6.heap1 2 rfl) (by show 0 + 1 ≤ 1; omega) (by intro v hv; have : v = .iface 159 (.pointer (some ⟨nb, 0, none⟩)) := (by simpa using hv); rw [this]; rfl) rfl (by omega) (by omega) (by omega)) ?_
    rintro _ w5 ⟨b5, cap5, cs5, h5, rfl, H7, G⟩
    have H8 : Own (fun k => k < w.heap.size) w w5 [h5, hx.or hn] := Own.left (A := [h5, hx.or hn]) (F := [Hl.one b4 (.cells #[.iface 159 (.pointer (some ⟨nb, 0, none⟩))] 45 (0, 0))]) H7
    have hb5 : h5 b5 = some (.cells cs5 45 (0, 0)) := by rw [G.put]; exact put_at _ _ _
    have hat : ∀ j, j < i + 1 → cs5[j]? = (cs.toList.take i ++ [Value.iface 159 (.pointer (some ⟨nb, 0, none⟩))])[j]? := by
      intro j hj
      have h1 := G.all
      have h2 : (cs5.toList.take (i + 1))[j]? = cs5[j]? := by rw [List.getElem?_take, if_pos hj]; simp
      rw [← h2, h1]
      rfl
    have hall5 : ∀ j r, j < i + 1 → rows[j]? = some r → ∃ u, cs5[j]? = some u ∧ Scl (Un (wR w) (hx.or hn)) c u r := by
      intro j r hj hjr
      rw [hat j hj]
      by_cases hji : j = i
      · subst hji
        rw [hri] at hjr
        cases hjr
        refine ⟨_, ?_, hS.mono (Un.or2 hd3)⟩
        rw [List.getElem?_append_right (by simp; omega)]
        simp [hcs, Nat.min_eq_left hic]
      · obtain ⟨u, hu1, hu2⟩ := hall j r (by omega) hjr
        refine ⟨u, ?_, hu2.mono Un.or1⟩
        rw [List.getElem?_append_left (by simp [hcs]; omega), List.getElem?_take, if_pos (by omega)]
        simpa using hu1
    refine s_valW ev_assign ?_
    refine s_nilW ?_
    refine x_normb ?_
    refine x_norm ?_
    refine c_regionW ?_
    refine s_valW (ev_addI rfl rfl) ?_
    refine s_valW ev_move ?_
    refine s_nilW ?_
    refine x_norm ?_
    exact ⟨i + 1, _, rfl, ⟨by omega, b5, cap5, cs5, h5, _, _, H8, hb5, G.size, G.le, hall5, sl5 rfl rfl rfl rfl rfl⟩, by omega⟩
  · refine c_exitW ?_
    refine x_exit ?_
    refine x_exit ?_
    refine x_exitb ?_
    refine x_norm ?_
    refine c_seqW ?_
    refine c_regionW ?_
    refine s_valW ev_move ?_
    refine s_valW ev_assign ?_
    refine s_nilW ?_
    refine x_norm ?_
    refine c_retW ?_
    have hir : i = rows.length := by omega
    subst hir
    refine r_ret rfl rfl ⟨.inr ⟨b, 0, cap, cs, 45, (0, 0), rfl, H2.heap (i := 0) rfl hb2, fun j r hj => ?_⟩, H2.toBelow⟩
    obtain ⟨u, hu1, hu2⟩ := hall j r (by have := (List.getElem?_eq_some_iff.1 hj).1; omega) hj
    exact ⟨u, by rw [Nat.zero_add]; exact hu1, hu2.mono fun k o h => h.elim (Sl.Below.rd H2.toBelow k o) (fun hk => H2.heap (i := 1) rfl hk)⟩
end
end Go.Proofs.YtgikfcmcgpcckaaGreatDoor
