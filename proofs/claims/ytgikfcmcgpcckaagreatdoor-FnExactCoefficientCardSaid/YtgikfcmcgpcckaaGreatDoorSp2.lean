/- Walks through functions of the program: each call comes to what its theorem says. A part of the proofs of FnExactDegree and FnExactCoefficient. -/
import Derived.Test.YtgikfcmcgpcckaaGreatDoorSp1
namespace Go.Proofs.YtgikfcmcgpcckaaGreatDoor
open Go Go.RowKit Sl

theorem zEqual (v1 v2 : Value) (xs ys : List Nat) (w : World) (h1 : BytesR (wR w) v1 xs) (h2 : BytesR (wR w) v2 ys) (hm : xs.length ≤ 9223372036854775807) :
    Calls Tryz.prog 10 #[v1, v2] w fun e w' => ∃ u, e = .returned u ∧ (u = .bool (decide (xs = ys)) ∧ Below w.heap.size w w') := by
  obtain ⟨p, c, rfl⟩ := h1.slice
  obtain ⟨p2, c2, rfl⟩ := h2.slice
  refine bodyW (n := 26) (args := [.slice p xs.length c, .slice p2 ys.length c2]) Tryz.func10 rfl rfl rfl ?_
  by_cases hl : ¬ (xs.length : Int) = ys.length
  · refine c_seqW ?_
    refine c_regionW ?_
    refine s_valW ev_assign ?_
    refine s_nilW ?_
    refine x_norm ?_
    refine c_seqW ?_
    refine c_seqW ?_
    refine c_regionW ?_
    refine s_valW ev_move ?_
    refine s_valW (ev_len_slice rfl Tryz.underlying29) ?_
    refine s_valW ev_move ?_
    refine s_valW (ev_len_slice rfl Tryz.underlying29) ?_
    refine s_valW (ev_ne_t rfl rfl hl) ?_
    refine s_nilW ?_
    refine x_norm ?_
    refine c_trueW rfl ?_
    refine c_seqW ?_
    refine c_regionW ?_
    refine s_valW ev_assign ?_
    refine s_nilW ?_
    refine x_norm ?_
    refine c_retW ?_
    refine x_ret ?_
    refine r_ret rfl rfl ⟨?_, .refl _ _⟩
    have : ¬ xs = ys := fun e => hl (by rw [e])
    rw [decide_eq_false this]; rfl
  · have hle : xs.length = ys.length := by omega
    refine c_seqW ?_
    refine c_regionW ?_
    refine s_valW ev_assign ?_
    refine s_nilW ?_
    refine x_norm ?_
    refine c_seqW ?_
    refine c_seqW ?_
    refine c_regionW ?_
    refine s_valW ev_move ?_
    refine s_valW (ev_len_slice rfl Tryz.underlying29) ?_
    refine s_valW ev_move ?_
    refine s_valW (ev_len_slice rfl Tryz.underlying29) ?_
    refine s_valW (ev_ne_f rfl rfl (by omega)) ?_
    refine s_nilW ?_
    refine x_norm ?_
    refine c_falseW rfl ?_
    refine c_skipW ?_
    refine x_norm ?_
    refine c_seqW ?_
    refine c_seqW ?_
    refine c_regionW ?_
    refine s_valW ev_move ?_
    refine s_valW (ev_len_slice rfl Tryz.underlying29) ?_
    refine s_valW ev_move ?_
    refine s_nilW ?_
    refine x_norm ?_
    refine c_blockW ?_
    refine c_loopW (α := Nat) (fun i e w' => i ≤ xs.length ∧ (∀ j, j < i → xs[j]? = ys[j]?) ∧ Below w.heap.size w w' ∧ ∃ e0, e = upd (upd (upd (upd e0 0 (.slice p xs.length c)) 1 (.slice p2 ys.length c2)) 12 (.int .i64 xs.length)) 13 (.int .i64 (i : Nat))) (fun i => xs.length - i) 0 (by exact ⟨by omega, fun j h => by omega, .refl _ _, _, sl4 rfl rfl rfl rfl⟩) ?_
    rintro i e w1 ⟨hi, hall, B, e, rfl⟩
    refine c_seqW ?_
    refine c_regionW ?_
    refine s_valW (ev_lt rfl rfl) ?_
    refine s_nilW ?_
    refine x_norm ?_
    refine c_seqW ?_
    refine c_ifW rfl (fun hlt => ?_) (fun hlt => ?_)
    · refine c_skipW ?_
      refine x_norm ?_
      refine c_seqW ?_
      refine c_blockW ?_
      refine c_seqW ?_
      refine c_regionW ?_
      refine s_valW ev_move ?_
      refine s_valW ev_assign ?_
      refine s_nilW ?_
      refine x_norm ?_
      refine c_seqW ?_
      refine b_beginW (by kernel_rfl) (Hold w1) 9 ?_
      have hS : (Hold w1) (World.drew w1) := hold_drew
      refine b_takeW (calm_then (calm_blk (calm_then (calm_then (calm_blk (calm_then calm_body)))))) hS 0 rfl (by kernel_rfl) (fun _ hS => ev_move) ?_
      refine b_takeW (calm_then (calm_blk (calm_then (calm_then (calm_blk (calm_then calm_body)))))) hS 1 rfl (by kernel_rfl) (fun _ hS => ev_move) ?_
      obtain ⟨x, hx⟩ : ∃ x, xs[i]? = some x := ⟨xs[i]'(by omega), by simp⟩
      obtain ⟨b, o, rfl, hc⟩ := (h1.mono (Sl.Below.rd B)).at hx
      refine b_takeW (calm_then (calm_blk (calm_then (calm_then (calm_blk (calm_then calm_body)))))) hS 2 rfl (by kernel_rfl) (fun _ hS => ev_ix rfl rfl Tryz.underlying29 Tryz.szT5 (by omega)) ?_
      refine b_takeW (calm_then (calm_blk (calm_then (calm_then (calm_blk (calm_then calm_body)))))) hS 3 rfl (by kernel_rfl) (fun _ hS => ev_load rfl Tryz.underlying5 rfl (hS.cell hc)) ?_
      refine b_takeW (calm_then (calm_blk (calm_then (calm_then (calm_blk (calm_then calm_body)))))) hS 4 rfl (by kernel_rfl) (fun _ hS => ev_move) ?_
      refine b_takeW (calm_then (calm_blk (calm_then (calm_then (calm_blk (calm_then calm_body)))))) hS 5 rfl (by kernel_rfl) (fun _ hS => ev_move) ?_
      obtain ⟨y, hy⟩ : ∃ y, ys[i]? = some y := ⟨ys[i]'(by omega), by simp⟩
      obtain ⟨b2, o2, rfl, hc2⟩ := (h2.mono (Sl.Below.rd B)).at hy
      refine b_takeW (calm_then (calm_blk (calm_then (calm_then (calm_blk (calm_then calm_body)))))) hS 6 rfl (by kernel_rfl) (fun _ hS => ev_ix rfl rfl Tryz.underlying29 Tryz.szT5 (by omega)) ?_
      refine b_takeW (calm_then (calm_blk (calm_then (calm_then (calm_blk (calm_then calm_body)))))) hS 7 rfl (by kernel_rfl) (fun _ hS => ev_load rfl Tryz.underlying5 rfl (hS.cell hc2)) ?_
      refine b_takeW (calm_then (calm_blk (calm_then (calm_then (calm_blk (calm_then calm_body)))))) hS 8 rfl (by kernel_rfl) (fun _ hS => ev_ne rfl rfl) ?_
      refine b_doneW (by kernel_rfl) ?_
      refine x_norm ?_
      refine c_ifW rfl (fun hne => ?_) (fun hne => ?_)
      · refine c_seqW ?_
        refine c_regionW ?_
        refine s_valW ev_assign ?_
        refine s_nilW ?_
        refine x_norm ?_
        refine c_retW ?_
        refine x_retb ?_
        refine x_ret ?_
        refine x_ret ?_
        refine x_retb ?_
        refine x_ret ?_
        refine r_ret rfl rfl ⟨?_, B.drew⟩
        have : ¬ xs = ys := fun e => by subst e; rw [hx] at hy; cases hy; exact hne rfl
        rw [decide_eq_false this]; rfl
      · refine c_skipW ?_
        refine x_normb ?_
        refine x_norm ?_
        refine c_regionW ?_
        refine s_valW (ev_addI rfl rfl) ?_
        refine s_valW ev_move ?_
        refine s_nilW ?_
        refine x_norm ?_
        refine ⟨i + 1, _, rfl, ⟨by omega, ?_, B.drew, _, sl4 rfl rfl rfl rfl⟩, by omega⟩
        intro j hj
        by_cases hji : j = i
        · subst hji
          rw [hx, hy]
          congr 1
          omega
        · exact hall j (by omega)
    · refine c_exitW ?_
      refine x_exit ?_
      refine x_exit ?_
      refine x_exitb ?_
      refine x_norm ?_
      refine c_seqW ?_
      refine c_regionW ?_
      refine s_valW ev_assign ?_
      refine s_nilW ?_
      refine x_norm ?_
      refine c_retW ?_
      refine r_ret rfl rfl ⟨?_, B⟩
      have : xs = ys := by
        apply List.ext_getElem?
        intro j
        by_cases hj : j < xs.length
        · exact hall j (by omega)
        · rw [List.getElem?_eq_none (by omega), List.getElem?_eq_none (by omega)]
      rw [decide_eq_true this]; rfl

theorem zless (xs ys : List Nat) (w : World) (hx : xs.length = 9) (hy : ys.length = 9) (bx : ∀ x ∈ xs, x < 18446744073709551616) (by' : ∀ x ∈ ys, x < 18446744073709551616) :
    Calls Tryz.prog 21 #[.agg (nA xs), .agg (nA ys)] w fun e w' => ∃ u, e = .returned u ∧ (u = .bool (decide (val xs < val ys)) ∧ Below w.heap.size w w') := by
  refine bodyW (n := 24) (args := [.agg (nA xs), .agg (nA ys)]) Tryz.func21 rfl rfl rfl ?_
  refine c_seqW ?_
  refine c_regionW ?_
  refine s_effW (d_box (cs := nA xs) (Own.begin w) rfl) ?_
  rintro _ w1 ⟨b1, rfl, H1⟩
  refine s_effW (d_box (cs := nA ys) H1 rfl) ?_
  rintro _ w2 ⟨b2, rfl, H2⟩
  refine s_valW ev_assign ?_
  refine s_nilW ?_
  refine x_norm ?_
  refine c_seqW ?_
  refine c_seqW ?_
  refine c_regionW ?_
  refine s_valW ev_assign ?_
  refine s_nilW ?_
  refine x_norm ?_
  refine c_blockW ?_
  refine c_loopW (α := Nat) (fun i e w' => i ≤ 9 ∧ (∀ j, i ≤ j → j < 9 → xs[j]? = ys[j]?) ∧ Own (fun k => k < w.heap.size) w w' [Hl.one b1 (.cells (nA xs) 50 (0, 0)), Hl.one b2 (.cells (nA ys) 50 (0, 0))] ∧ ∃ e0, e = upd (upd (upd e0 2 (.pointer (some ⟨b1, 0, none⟩))) 3 (.pointer (some ⟨b2, 0, none⟩))) 5 (.int .i64 ((i : Nat) - 1 : Int))) (fun i => i) 9 (by exact ⟨by omega, fun j h => by omega, H2, _, sl3 rfl rfl rfl⟩) ?_
  rintro i e w3 ⟨hi, hall, H, e, rfl⟩
  refine c_seqW ?_
  refine c_seqW ?_
  refine c_regionW ?_
  refine s_valW ev_move ?_
  refine s_valW (ev_ge rfl rfl) ?_
  refine s_nilW ?_
  refine x_norm ?_
  refine c_ifW rfl (fun hlt => ?_) (fun hlt => ?_)
  · refine c_skipW ?_
    refine x_norm ?_
    refine c_seqW ?_
    refine c_blockW ?_
    refine c_seqW ?_
    refine b_beginW (by kernel_rfl) (Hold w3) 7 ?_
    have hS : (Hold w3) (World.drew w3) := hold_drew
    refine b_takeW (calm_then (calm_blk (calm_then (calm_then (calm_blk (calm_then calm_body)))))) hS 0 rfl (by kernel_rfl) (fun _ hS => ev_move) ?_
    obtain ⟨k, rfl⟩ : ∃ k, i = k + 1 := ⟨i - 1, by omega⟩
    have hk : ((k + 1 : Nat) : Int) - 1 = (k : Nat) := by omega
    have hbx := H.heap (i := 0) (h := Hl.one b1 (.cells (nA xs) 50 (0, 0))) rfl (k := b1) (o := (.cells (nA xs) 50 (0, 0))) (by simp [Hl.one])
    have hby := H.heap (i := 1) (h := Hl.one b2 (.cells (nA ys) 50 (0, 0))) rfl (k := b2) (o := (.cells (nA ys) 50 (0, 0))) (by simp [Hl.one])
    have hxk : (nA xs)[k]? = some (.int .u64 (xs[k]'(by omega) : Nat)) := nA_get (by simp)
    have hyk : (nA ys)[k]? = some (.int .u64 (ys[k]'(by omega) : Nat)) := nA_get (by simp)
    simp only [hk]
    refine b_takeW (calm_then (calm_blk (calm_then (calm_then (calm_blk (calm_then calm_body)))))) hS 1 rfl (by kernel_rfl) (fun _ hS => ev_ixArr rfl rfl Tryz.underlying50 Tryz.szT48 (by omega)) ?_
    refine b_takeW (calm_then (calm_blk (calm_then (calm_then (calm_blk (calm_then calm_body)))))) hS 2 rfl (by kernel_rfl) (fun _ hS => ev_loadH rfl Tryz.underlying48 rfl (hS.block hbx) (by rw [Nat.zero_add]; exact hxk)) ?_
    refine b_takeW (calm_then (calm_blk (calm_then (calm_then (calm_blk (calm_then calm_body)))))) hS 3 rfl (by kernel_rfl) (fun _ hS => ev_move) ?_
    refine b_takeW (calm_then (calm_blk (calm_then (calm_then (calm_blk (calm_then calm_body)))))) hS 4 rfl (by kernel_rfl) (fun _ hS => ev_ixArr rfl rfl Tryz.underlying50 Tryz.szT48 (by omega)) ?_
    refine b_takeW (calm_then (calm_blk (calm_then (calm_then (calm_blk (calm_then calm_body)))))) hS 5 rfl (by kernel_rfl) (fun _ hS => ev_loadH rfl Tryz.underlying48 rfl (hS.block hby) (by rw [Nat.zero_add]; exact hyk)) ?_
    refine b_takeW (calm_then (calm_blk (calm_then (calm_then (calm_blk (calm_then calm_body)))))) hS 6 rfl (by kernel_rfl) (fun _ hS => ev_ne rfl rfl) ?_
    refine b_doneW (by kernel_rfl) ?_
    refine x_norm ?_
    refine c_ifW rfl (fun hne => ?_) (fun hne => ?_)
    · refine c_seqW ?_
      refine b_beginW (by kernel_rfl) (Hold w3.drew) 8 ?_
      have hS : (Hold w3.drew) (World.drew w3.drew) := hold_drew
      refine b_takeW (calm_then (calm_blk (calm_then (calm_then (calm_blk (calm_then calm_body)))))) hS 0 rfl (by kernel_rfl) (fun _ hS => ev_move) ?_
      refine b_takeW (calm_then (calm_blk (calm_then (calm_then (calm_blk (calm_then calm_body)))))) hS 1 rfl (by kernel_rfl) (fun _ hS => ev_ixArr rfl rfl Tryz.underlying50 Tryz.szT48 (by omega)) ?_
      refine b_takeW (calm_then (calm_blk (calm_then (calm_then (calm_blk (calm_then calm_body)))))) hS 2 rfl (by kernel_rfl) (fun _ hS => ev_loadH rfl Tryz.underlying48 rfl (hS.block hbx) (by rw [Nat.zero_add]; exact hxk)) ?_
      refine b_takeW (calm_then (calm_blk (calm_then (calm_then (calm_blk (calm_then calm_body)))))) hS 3 rfl (by kernel_rfl) (fun _ hS => ev_move) ?_
      refine b_takeW (calm_then (calm_blk (calm_then (calm_then (calm_blk (calm_then calm_body)))))) hS 4 rfl (by kernel_rfl) (fun _ hS => ev_ixArr rfl rfl Tryz.underlying50 Tryz.szT48 (by omega)) ?_
      refine b_takeW (calm_then (calm_blk (calm_then (calm_then (calm_blk (calm_then calm_body)))))) hS 5 rfl (by kernel_rfl) (fun _ hS => ev_loadH rfl Tryz.underlying48 rfl (hS.block hby) (by rw [Nat.zero_add]; exact hyk)) ?_
      refine b_takeW (calm_then (calm_blk (calm_then (calm_then (calm_blk (calm_then calm_body)))))) hS 6 rfl (by kernel_rfl) (fun _ hS => ev_lt rfl rfl) ?_
      refine b_takeW (calm_then (calm_blk (calm_then (calm_then (calm_blk (calm_then calm_body)))))) hS 7 rfl (by kernel_rfl) (fun _ hS => ev_assign) ?_
      refine b_doneW (by kernel_rfl) ?_
      refine x_norm ?_
      refine c_retW ?_
      refine x_retb ?_
      refine x_ret ?_
      refine x_ret ?_
      refine x_retb ?_
      refine x_ret ?_
      refine r_ret rfl rfl ⟨?_, H.drew.drew.toBelow⟩
      show Value.bool (decide ((xs[k]'(by omega) : Nat) < ((ys[k]'(by omega) : Nat) : Int))) = _
      congr 1
      rcases Nat.lt_or_gt_of_ne (a := xs[k]'(by omega)) (b := ys[k]'(by omega)) (by omega) with h | h
      · rw [decide_eq_true (by omega), decide_eq_true]
        exact val_lt_of xs ys (by omega) bx k (by omega) (fun j h1 h2 => hall j (by omega) (by omega)) h
      · rw [decide_eq_false (by omega), decide_eq_false]
        have := val_lt_of ys xs (by omega) by' k (by omega) (fun j h1 h2 => (hall j (by omega) (by omega)).symm) h
        omega
    · refine c_skipW ?_
      refine x_normb ?_
      refine x_norm ?_
      refine c_regionW ?_
      refine s_valW ev_move ?_
      refine s_valW (ev_subI rfl rfl) ?_
      refine s_valW ev_assign ?_
      refine s_nilW ?_
      refine x_norm ?_
      refine ⟨k, _, rfl, ⟨by omega, ?_, H.drew, ?_⟩, by omega⟩
      · intro j hj hj9
        by_cases hjk : j = k
        · subst hjk
          rw [List.getElem?_eq_getElem (by omega), List.getElem?_eq_getElem (by omega)]
          congr 1
          omega
        · exact hall j (by omega) hj9
      · exact ⟨_, sl3 rfl rfl rfl⟩
  · refine c_exitW ?_
    refine x_exit ?_
    refine x_exit ?_
    refine x_exitb ?_
    refine x_norm ?_
    refine c_seqW ?_
    refine c_regionW ?_
    refine s_valW ev_assign ?_
    refine s_nilW ?_
    refine x_norm ?_
    refine c_retW ?_
    refine r_ret rfl rfl ⟨?_, H.toBelow⟩
    have : xs = ys := by
      apply List.ext_getElem?
      intro j
      by_cases hj : j < 9
      · exact hall j (by omega) hj
      · rw [List.getElem?_eq_none (by omega), List.getElem?_eq_none (by omega)]
    subst this
    rw [decide_eq_false (Nat.lt_irrefl _)]; rfl
end Go.Proofs.YtgikfcmcgpcckaaGreatDoor
