/- Walks through functions of the program: each call comes to what its theorem says. A part of the proofs of FnExactDegree and FnExactCoefficient. -/
import Derived.Test.YtgikfcmcgpcckaaGreatDoorGp8
namespace Go.Proofs.YtgikfcmcgpcckaaGreatDoor
open Go Go.RowKit Sl

section
variable {w : World}

theorem zNew {c : Int} {v : Value} {rows : List (List Nat)} (hr : SclsR (wR w) c v rows) (hm : rows.length ≤ 1000) :
    Calls Tryz.prog 14 #[v] w fun e w' => ∃ u, e = .returned u ∧ ((∃ sv, u = .agg #[sv] ∧ SclsR (wR w') c sv rows) ∧ Below w.heap.size w w') := by
  obtain ⟨p, k, rfl⟩ := hr.slice
  refine bodyW (n := 27) (args := [.slice p rows.length k]) Tryz.func14 rfl rfl rfl ?_
  by_cases h0 : (rows.length : Int) = 0
  · have hnil : rows = [] := List.length_eq_zero_iff.1 (by omega)
    subst hnil
    refine c_seqW ?_
    refine c_regionW ?_
    refine s_effW (d_alloc (cs := #[.slice none 0 0]) (Own.begin w) Tryz.zeroT36 rfl) ?_
    rintro _ w1 ⟨b2, rfl, H1⟩
    refine s_nilW ?_
    refine x_norm ?_
    refine c_seqW ?_
    refine c_seqW ?_
    refine c_regionW ?_
    refine s_valW ev_move ?_
    refine s_valW (ev_len_slice rfl Tryz.underlying34) ?_
    refine s_valW ev_assign ?_
    refine s_nilW ?_
    refine x_norm ?_
    refine c_seqW ?_
    refine c_regionW ?_
    refine s_valW ev_move ?_
    refine s_valW (ev_ne_f rfl rfl h0) ?_
    refine s_nilW ?_
    refine x_norm ?_
    refine c_falseW rfl ?_
    refine c_skipW ?_
    refine x_norm ?_
    refine c_retW ?_
    exact r_retc rfl rfl rfl Tryz.underlying36 rfl Tryz.szT36 (H1.heap1 0 rfl) (Nat.le_refl _) ⟨⟨_, rfl, .inl ⟨0, rfl, rfl⟩⟩, H1.toBelow⟩
  · refine c_seqW ?_
    refine c_regionW ?_
    refine s_effW (d_alloc (cs := #[.slice none 0 0]) (Own.begin w) Tryz.zeroT36 rfl) ?_
    rintro _ w1 ⟨b2, rfl, H1⟩
    refine s_nilW ?_
    refine x_norm ?_
    refine c_seqW ?_
    refine c_seqW ?_
    refine c_regionW ?_
    refine s_valW ev_move ?_
    refine s_valW (ev_len_slice rfl Tryz.underlying34) ?_
    refine s_valW ev_assign ?_
    refine s_nilW ?_
    refine x_norm ?_
    refine c_seqW ?_
    refine c_regionW ?_
    refine s_valW ev_move ?_
    refine s_valW (ev_ne_t rfl rfl h0) ?_
    refine s_nilW ?_
    refine x_norm ?_
    refine c_trueW rfl ?_
    refine c_seqW ?_
    refine c_regionW ?_
    refine s_valW ev_move ?_
    refine s_effW (d_make (nn := rows.length) H1 rfl rfl Tryz.underlying34 Tryz.infT45 rfl (by omega) (by omega)) ?_
    rintro _ w2 ⟨ab, rfl, H2⟩
    refine s_valW (ev_field rfl Tryz.underlying36 rfl Tryz.szT34 rfl) ?_
    refine s_eff0W (d_store1 (v := .slice (some ⟨ab, 0, none⟩) rows.length rows.length) H2 0 rfl rfl rfl (one_at _ _) Tryz.szT34 rfl (by show (0 + 0 : Nat) < 1; omega)) ?_
    rintro _ w3 H3
    have H3 : Own (fun k => k < w.heap.size) w w3 [(Hl.one b2 (.cells #[.slice none 0 0] 36 (0, 0))).put b2 (.cells #[.slice (some ⟨ab, 0, none⟩) rows.length rows.length] 36 (0, 0)), Hl.one ab (.cells (Array.replicate rows.length .nilIface) 45 (0, 0))] := H3
    rw [one_put] at H3
    have H3 : Own (fun k => k < w.heap.size) w w3 [Hl.one b2 (.cells #[.slice (some ⟨ab, 0, none⟩) rows.length rows.length] 36 (0, 0)), Hl.one ab (.cells (Array.replicate rows.length .nilIface) 45 (0, 0)), Hl.emp] := H3.addEmp
    refine s_nilW ?_
    refine x_norm ?_
    refine c_seqW ?_
    refine c_regionW ?_
    refine s_valW ev_move ?_
    refine s_valW (ev_len_slice rfl Tryz.underlying34) ?_
    refine s_valW ev_move ?_
    refine s_nilW ?_
    refine x_norm ?_
    refine c_blockW ?_
    refine c_loopW (α := Nat) (fun i e w' => i ≤ rows.length ∧ ∃ cs hx e0, Own (fun k => k < w.heap.size) w w' [Hl.one b2 (.cells #[.slice (some ⟨ab, 0, none⟩) rows.length rows.length] 36 (0, 0)), Hl.one ab (.cells cs 45 (0, 0)), hx] ∧ cs.size = rows.length ∧ (∀ j r, j < i → rows[j]? = some r → ∃ u, cs[j]? = some u ∧ Scl (Un (wR w) hx) c u r) ∧ e = upd (upd (upd (upd e0 0 (.slice p rows.length k)) 2 (.pointer (some ⟨b2, 0, none⟩))) 13 (.int .i64 rows.length)) 14 (.int .i64 (i : Nat))) (fun i => rows.length - i) 0 (by exact ⟨by omega, _, _, _, H3, Array.size_replicate, fun j r h => by omega, sl4 rfl rfl rfl rfl⟩) ?_
    rintro i e w4 ⟨hi, cs, hx, e, H4, hcs, hall, rfl⟩
    refine c_seqW ?_
    refine c_regionW ?_
    refine s_valW (ev_lt rfl rfl) ?_
    refine s_nilW ?_
    refine x_norm ?_
    refine c_seqW ?_
    refine c_ifW rfl (fun hlt => ?_) (fun hlt => ?_)
    · refine c_skipW ?_
      refine x_norm ?_
      refine c_seqW ?_
      refine c_blockW ?_
      refine c_seqW ?_
      refine c_regionW ?_
      refine s_valW ev_move ?_
      refine s_valW ev_assign ?_
      refine s_nilW ?_
      refine x_norm ?_
      refine b_beginW (by kernel_rfl) (Hold w4) 9 ?_
      have hS : (Hold w4) (World.drew w4) := hold_drew
      have hil : i < rows.length := by omega
      have hri : rows[i]? = some rows[i] := by simp
      obtain ⟨rb, ro, rcs, rt, rfz, ru, rfl, hc1, hc2, hu⟩ := hr.at hri
      have hc1 := Sl.Below.rd H4.toBelow _ _ hc1
      have hu2 := hu
      obtain ⟨sb, scv, sod, skv, rfl, _⟩ := hu2
      refine b_takeW (calm_blk (calm_then (calm_then (calm_blk (calm_then calm_body))))) hS 0 rfl (by kernel_rfl) (fun _ hS => ev_field rfl Tryz.underlying36 rfl Tryz.szT34 rfl) ?_
      refine b_takeW (calm_blk (calm_then (calm_then (calm_blk (calm_then calm_body))))) hS 1 rfl (by kernel_rfl) (fun _ hS => (ev_loadH rfl Tryz.underlying34 rfl (hS.block (H4.heap1 0 rfl)) rfl : Ev Tryz.prog _ _ _ _ (.slice (some ⟨ab, 0, none⟩) rows.length rows.length))) ?_
      refine b_takeW (calm_blk (calm_then (calm_then (calm_blk (calm_then calm_body))))) hS 2 rfl (by kernel_rfl) (fun _ hS => ev_move) ?_
      refine b_takeW (calm_blk (calm_then (calm_then (calm_blk (calm_then calm_body))))) hS 3 rfl (by kernel_rfl) (fun _ hS => ev_move) ?_
      refine b_takeW (calm_blk (calm_then (calm_then (calm_blk (calm_then calm_body))))) hS 4 rfl (by kernel_rfl) (fun _ hS => ev_move) ?_
      refine b_takeW (calm_blk (calm_then (calm_then (calm_blk (calm_then calm_body))))) hS 5 rfl (by kernel_rfl) (fun _ hS => ev_ix rfl rfl Tryz.underlying34 Tryz.szT45 (by omega)) ?_
      refine b_takeW (calm_blk (calm_then (calm_then (calm_blk (calm_then calm_body))))) hS 6 rfl (by kernel_rfl) (fun _ hS => (ev_loadH rfl Tryz.underlying45 rfl (hS.block hc1) hc2 : Ev Tryz.prog _ _ _ _ (.iface 159 (.pointer (some ⟨sb, 0, none⟩))))) ?_
      refine b_effW 7 rfl (by kernel_rfl) rfl (d_invoke (copyM sb _) (zCopy (R := wR w) (Sl.Below.rd H4.toBelow.drew) hu)) ?_
      rintro u5 w5 ⟨hn, M, hS5⟩
      have H5 : Own (fun k => k < w.heap.size) w w5 [Hl.one b2 (.cells #[.slice (some ⟨ab, 0, none⟩) rows.length rows.length] 36 (0, 0)), Hl.one ab (.cells cs 45 (0, 0)), hx, hn] := H4.drew.makes M
      have hd5 : hx.disj hn := (List.pairwise_cons.1 (List.pairwise_cons.1 (List.pairwise_cons.1 H5.apart).2).2).1 _ (by simp)
      obtain ⟨nb, ncv, nod, nkv, rfl, _⟩ := id hS5
      have hS : (Hold w4) w5 := hS.below M.below
      refine ⟨hS, ?_⟩
      refine b_takeW (calm_blk (calm_then (calm_then (calm_blk (calm_then calm_body))))) hS 8 rfl (by kernel_rfl) (fun _ hS => ev_ix rfl rfl Tryz.underlying34 Tryz.szT45 (by omega)) ?_
      refine b_barW rfl (by kernel_rfl) (d_store1 (v := .iface 159 (.pointer (some ⟨nb, 0, none⟩))) H5 1 rfl rfl rfl (one_at _ _) Tryz.szT45 rfl (by omega)) ?_
      rintro _ w6 H6
      rw [Nat.zero_add] at H6
      have H6 : Own (fun k => k < w.heap.size) w w6 [Hl.one b2 (.cells #[.slice (some ⟨ab, 0, none⟩) rows.length rows.length] 36 (0, 0)), (Hl.one ab (.cells cs 45 (0, 0))).put ab (.cells (cs.setIfInBounds i (.iface 159 (.pointer (some ⟨nb, 0, none⟩)))) 45 (0, 0)), hx, hn] := H6
      rw [one_put] at H6
      have H7 : Own (fun k => k < w.heap.size) w w6 [hx.or hn, Hl.one b2 (.cells #[.slice (some ⟨ab, 0, none⟩) rows.length rows.length] 36 (0, 0)), Hl.one ab (.cells (cs.setIfInBounds i (.iface 159 (.pointer (some ⟨nb, 0, none⟩)))) 45 (0, 0))] := (Own.perm (L' := [hx, hn, Hl.one b2 (.cells #[.slice (some ⟨ab, 0, none⟩) rows.length rows.length] 36 (0, 0)), Hl.one ab (.cells (cs.setIfInBounds i (.iface 159 (.pointer (some ⟨nb, 0, none⟩)))) 45 (0, 0))]) H6 (List.perm_append_comm (l₁ := [_, _]) (l₂ := [hx, hn]))).join
      have H8 : Own (fun k => k < w.heap.size) w w6 [Hl.one b2 (.cells #[.slice (some ⟨ab, 0, none⟩) rows.length rows.length] 36 (0, 0)), Hl.one ab (.cells (cs.setIfInBounds i (.iface 159 (.pointer (some ⟨nb, 0, none⟩)))) 45 (0, 0)), hx.or hn] := H7.perm (List.perm_append_comm (l₁ := [hx.or hn]) (l₂ := [_, _]))
      refine b_endW (by kernel_rfl) ?_
      refine x_normb ?_
      refine x_norm ?_
      refine c_regionW ?_
      refine s_valW (ev_addI rfl rfl) ?_
      refine s_valW ev_move ?_
      refine s_nilW ?_
      refine x_norm ?_
      refine ⟨i + 1, _, rfl, ⟨by omega, _, _, _, H8, by rw [Array.size_setIfInBounds]; exact hcs, ?_, sl4 rfl rfl rfl rfl⟩, by omega⟩
      intro j r hj hjr
      by_cases hji : j = i
      · subst hji
        rw [hri] at hjr
        cases hjr
        exact ⟨_, by rw [Array.getElem?_setIfInBounds, if_pos rfl, if_pos (by omega)], hS5.mono (Un.or2 hd5)⟩
      · obtain ⟨u, hu1, hu2⟩ := hall j r (by omega) hjr
        exact ⟨u, by rw [Array.getElem?_setIfInBounds, if_neg (by omega)]; exact hu1, hu2.mono Un.or1⟩
    · refine c_exitW ?_
      refine x_exit ?_
      refine x_exit ?_
      refine x_exitb ?_
      refine x_norm ?_
      refine c_retW ?_
      have hir : i = rows.length := by omega
      subst hir
      refine r_retc rfl rfl rfl Tryz.underlying36 rfl Tryz.szT36 (H4.heap1 0 rfl) (Nat.le_refl _) ⟨⟨_, rfl, .inr ⟨ab, 0, rows.length, cs, 45, (0, 0), rfl, H4.heap1 1 rfl, fun j r hj => ?_⟩⟩, H4.toBelow⟩
      obtain ⟨u, hu1, hu2⟩ := hall j r (by have := (List.getElem?_eq_some_iff.1 hj).1; omega) hj
      exact ⟨u, by rw [Nat.zero_add]; exact hu1, hu2.mono fun k o h => h.elim (Sl.Below.rd H4.toBelow k o) (fun hk => H4.heap (i := 2) rfl hk)⟩
end
end Go.Proofs.YtgikfcmcgpcckaaGreatDoor
