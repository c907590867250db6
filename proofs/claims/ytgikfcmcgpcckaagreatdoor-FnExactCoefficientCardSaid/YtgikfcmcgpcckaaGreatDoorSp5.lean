/- Walks through functions of the program: each call comes to what its theorem says. A part of the proofs of FnExactDegree and FnExactCoefficient. -/
import Derived.Test.YtgikfcmcgpcckaaGreatDoorSp4
namespace Go.Proofs.YtgikfcmcgpcckaaGreatDoor
open Go Go.RowKit Sl

def isSc (c : Int) (bs : List Nat) : Bool := decide (bs.length = szOf c) && decide (BE bs < val (ordW c))
def areSc (c : Int) (rows : List (List Nat)) : Bool := rows.all (isSc c) && decide (rows.length ≤ 8)
theorem szOf_le (c : Int) : szOf c ≤ 66 := by unfold szOf; split; omega; split <;> omega

theorem zIsScalar (c : Int) (hc : 0 ≤ c ∧ c ≤ 2) (v : Value) (bs : List Nat) (w : World) (hr : BytesR (wR w) v bs) (hb : ∀ b ∈ bs, b < 256) :
    Calls Tryz.prog 12 #[.int .i64 c, v] w fun e w' => ∃ u, e = .returned u ∧ (u = .bool (isSc c bs) ∧ Below w.heap.size w w') := by
  obtain ⟨p, k, rfl⟩ := hr.slice
  refine bodyW (n := 20) (args := [.int .i64 c, .slice p bs.length k]) Tryz.func12 rfl rfl rfl ?_
  have hsz := szOf_le c
  by_cases hl : (bs.length : Int) = (szOf c : Nat)
  · refine c_seqW ?_
    refine c_regionW ?_
    refine s_valW ev_assign ?_
    refine s_nilW ?_
    refine x_norm ?_
    refine c_seqW ?_
    refine c_regionW ?_
    refine s_valW ev_move ?_
    refine s_effW (d_call Tryz.call20 (zCurveOf c hc _)) ?_
    rintro _ w1 ⟨⟨cs, rfl, hC⟩, B1⟩
    refine s_effW (d_alloc (cs := z46) ((Own.begin w).below B1) Tryz.zeroT52 rfl) ?_
    rintro _ w2 ⟨b5, rfl, H2⟩
    refine s_eff0W (d_store (vs := cs) (t := 52) H2 0 rfl rfl rfl (b := b5) (cs := z46) (tt := 52) (one_at _ _) Tryz.szT52 hC.size hC.one (by decide)) ?_
    rintro _ w3 H3
    rw [splice_all (by rw [Array.length_toList, hC.size]; rfl)] at H3
    have hb5 := H3.heap (i := 0) rfl (put_at _ _ _)
    refine s_nilW ?_
    refine x_norm ?_
    refine c_seqW ?_
    refine b_beginW (by kernel_rfl) (Hold w3) 13 ?_
    have hS : (Hold w3) (World.drew w3) := hold_drew
    refine b_takeW (calm_then calm_body) hS 0 rfl (by kernel_rfl) (fun _ hS => ev_move) ?_
    refine b_takeW (calm_then calm_body) hS 1 rfl (by kernel_rfl) (fun _ hS => ev_len_slice rfl Tryz.underlying29) ?_
    refine b_takeW (calm_then calm_body) hS 2 rfl (by kernel_rfl) (fun _ hS => ev_field rfl Tryz.underlying52 rfl Tryz.szT3 rfl) ?_
    refine b_takeW (calm_then calm_body) hS 3 rfl (by kernel_rfl) (fun _ hS => (ev_loadH rfl Tryz.underlying3 rfl (hS.block hb5) (by exact hC.sz) : Ev Tryz.prog _ _ _ _ (.int .i64 (szOf c : Nat)))) ?_
    refine b_takeW (calm_then calm_body) hS 4 rfl (by kernel_rfl) (fun _ hS => ev_eq_t rfl rfl hl) ?_
    refine b_takeW (calm_then calm_body) hS 5 rfl (by kernel_rfl) (fun _ hS => ev_move) ?_
    refine b_takegW (calm_then calm_body) hS 6 rfl (by kernel_rfl) rfl rfl (fun _ hS => ev_move) ?_
    refine b_takegW (calm_then calm_body) hS 8 rfl (by kernel_rfl) rfl rfl (fun _ hS => ev_field rfl Tryz.underlying52 rfl Tryz.szT50 rfl) ?_
    refine b_takegW (calm_then calm_body) hS 9 rfl (by kernel_rfl) rfl rfl (fun _ hS => (by rw [← hC.order]; exact ev_loadAgg rfl Tryz.underlying50 rfl Tryz.szT50 (hS.block hb5) (by rw [List.size_toArray, Array.length_toList, hC.size]; decide) : Ev Tryz.prog _ _ _ _ (.agg (nA (ordW c))))) ?_
    refine b_effgW 7 rfl (by kernel_rfl) rfl rfl rfl (d_call Tryz.call22 (zofBytes _ _ _ ((hr.mono (Sl.Below.rd H3.toBelow)).mono rd_drew) (by omega) hb)) ?_
    rintro _ w4 ⟨⟨ws, rfl, hwl, hw, hv⟩, B4⟩
    have hS : (Hold w3) w4 := hS.below B4
    refine ⟨hS, ?_⟩
    refine b_effgW 10 rfl (by kernel_rfl) rfl rfl rfl (d_call Tryz.call21 (zless _ _ _ hwl (ordW_len c) hw (ordW_lt c))) ?_
    rintro _ w5 ⟨rfl, B5⟩
    have hS : (Hold w3) w5 := hS.below B5
    refine ⟨hS, ?_⟩
    refine b_takeW (calm_then calm_body) hS 11 rfl (by kernel_rfl) (fun _ hS => ev_pick_t rfl) ?_
    refine b_takeW (calm_then calm_body) hS 12 rfl (by kernel_rfl) (fun _ hS => ev_assign) ?_
    refine b_doneW (by kernel_rfl) ?_
    refine x_norm ?_
    refine c_retW ?_
    refine r_ret rfl rfl ⟨?_, Sl.Below.trans' (Sl.Below.trans' H3.toBelow.drew B4) B5⟩
    show Value.bool (decide (val ws < val (ordW c))) = _
    unfold isSc
    rw [hv, decide_eq_true (p := bs.length = szOf c) (by omega)]; rfl
  · refine c_seqW ?_
    refine c_regionW ?_
    refine s_valW ev_assign ?_
    refine s_nilW ?_
    refine x_norm ?_
    refine c_seqW ?_
    refine c_regionW ?_
    refine s_valW ev_move ?_
    refine s_effW (d_call Tryz.call20 (zCurveOf c hc _)) ?_
    rintro _ w1 ⟨⟨cs, rfl, hC⟩, B1⟩
    refine s_effW (d_alloc (cs := z46) ((Own.begin w).below B1) Tryz.zeroT52 rfl) ?_
    rintro _ w2 ⟨b5, rfl, H2⟩
    refine s_eff0W (d_store (vs := cs) (t := 52) H2 0 rfl rfl rfl (b := b5) (cs := z46) (tt := 52) (one_at _ _) Tryz.szT52 hC.size hC.one (by decide)) ?_
    rintro _ w3 H3
    rw [splice_all (by rw [Array.length_toList, hC.size]; rfl)] at H3
    have hb5 := H3.heap (i := 0) rfl (put_at _ _ _)
    refine s_nilW ?_
    refine x_norm ?_
    refine c_seqW ?_
    refine b_beginW (by kernel_rfl) (Hold w3) 13 ?_
    have hS : (Hold w3) (World.drew w3) := hold_drew
    refine b_takeW (calm_then calm_body) hS 0 rfl (by kernel_rfl) (fun _ hS => ev_move) ?_
    refine b_takeW (calm_then calm_body) hS 1 rfl (by kernel_rfl) (fun _ hS => ev_len_slice rfl Tryz.underlying29) ?_
    refine b_takeW (calm_then calm_body) hS 2 rfl (by kernel_rfl) (fun _ hS => ev_field rfl Tryz.underlying52 rfl Tryz.szT3 rfl) ?_
    refine b_takeW (calm_then calm_body) hS 3 rfl (by kernel_rfl) (fun _ hS => (ev_loadH rfl Tryz.underlying3 rfl (hS.block hb5) (by exact hC.sz) : Ev Tryz.prog _ _ _ _ (.int .i64 (szOf c : Nat)))) ?_
    refine b_takeW (calm_then calm_body) hS 4 rfl (by kernel_rfl) (fun _ hS => ev_eq_f rfl rfl hl) ?_
    refine b_takeW (calm_then calm_body) hS 5 rfl (by kernel_rfl) (fun _ hS => ev_move) ?_
    refine b_skipW (calm_then calm_body) hS 6 rfl (by kernel_rfl) rfl rfl rfl ?_
    refine b_skipW (calm_then calm_body) hS 8 rfl (by kernel_rfl) rfl rfl rfl ?_
    refine b_skipW (calm_then calm_body) hS 9 rfl (by kernel_rfl) rfl rfl rfl ?_
    refine b_skipW (calm_then calm_body) hS 7 rfl (by kernel_rfl) rfl rfl rfl ?_
    refine b_skipW (calm_then calm_body) hS 10 rfl (by kernel_rfl) rfl rfl rfl ?_
    refine b_takeW (calm_then calm_body) hS 11 rfl (by kernel_rfl) (fun _ hS => ev_pick_f rfl) ?_
    refine b_takeW (calm_then calm_body) hS 12 rfl (by kernel_rfl) (fun _ hS => ev_assign) ?_
    refine b_doneW (by kernel_rfl) ?_
    refine x_norm ?_
    refine c_retW ?_
    refine r_ret rfl rfl ⟨?_, H3.toBelow.drew⟩
    show Value.bool false = _
    unfold isSc
    rw [decide_eq_false (p := bs.length = szOf c) (by omega)]; rfl

theorem zAreScalars (c : Int) (hc : 0 ≤ c ∧ c ≤ 2) (v : Value) (rows : List (List Nat)) (w : World) (hr : RowsR (wR w) v rows) (hb : ∀ r ∈ rows, ∀ b ∈ r, b < 256) (hm : rows.length ≤ 9223372036854775807) :
    Calls Tryz.prog 7 #[.int .i64 c, v] w fun e w' => ∃ u, e = .returned u ∧ (u = .bool (areSc c rows) ∧ Below w.heap.size w w') := by
  obtain ⟨p, k, rfl⟩ := hr.slice
  refine bodyW (n := 22) (args := [.int .i64 c, .slice p rows.length k]) Tryz.func7 rfl rfl rfl ?_
  refine c_seqW ?_
  refine c_regionW ?_
  refine s_valW ev_assign ?_
  refine s_nilW ?_
  refine x_norm ?_
  refine c_seqW ?_
  refine c_seqW ?_
  refine c_regionW ?_
  refine s_valW ev_assign ?_
  refine s_nilW ?_
  refine x_norm ?_
  refine c_blockW ?_
  refine c_loopW (α := Nat) (fun i e w' => i ≤ rows.length ∧ (∀ j r, j < i → rows[j]? = some r → isSc c r = true) ∧ Below w.heap.size w w' ∧ ∃ e0, e = upd (upd (upd e0 0 (.int .i64 c)) 1 (.slice p rows.length k)) 5 (.int .i64 (i : Nat))) (fun i => rows.length - i) 0 (by exact ⟨by omega, fun j r h => by omega, .refl _ _, _, sl3 rfl rfl rfl⟩) ?_
  rintro i e w1 ⟨hi, hall, B, e, rfl⟩
  refine c_seqW ?_
  refine c_seqW ?_
  refine c_regionW ?_
  refine s_valW ev_move ?_
  refine s_valW ev_move ?_
  refine s_valW (ev_len_slice rfl Tryz.underlying22) ?_
  refine s_valW (ev_lt rfl rfl) ?_
  refine s_nilW ?_
  refine x_norm ?_
  refine c_ifW rfl (fun hlt => ?_) (fun hlt => ?_)
  · refine c_skipW ?_
    refine x_norm ?_
    refine c_seqW ?_
    refine c_blockW ?_
    refine c_seqW ?_
    refine c_regionW ?_
    refine s_valW ev_move ?_
    refine s_valW ev_move ?_
    refine s_valW ev_move ?_
    have hil : i < rows.length := by omega
    have hri : rows[i]? = some rows[i] := by simp
    obtain ⟨b, o, u, rfl, hc2, hu⟩ := (hr.mono (Sl.Below.rd B)).at hri
    refine s_valW (ev_ix rfl rfl Tryz.underlying22 Tryz.szT29 (by omega)) ?_
    refine s_valW (ev_load rfl Tryz.underlying29 rfl hc2) ?_
    refine s_effW (d_call Tryz.call12 (zIsScalar c hc _ _ _ hu (hb _ (List.mem_of_getElem? hri)))) ?_
    rintro _ w2 ⟨rfl, B2⟩
    refine s_valW (ev_not rfl) ?_
    refine s_nilW ?_
    refine x_norm ?_
    refine c_ifbW rfl (fun hz => ?_) (fun hz => ?_)
    · refine c_seqW ?_
      refine c_regionW ?_
      refine s_valW ev_assign ?_
      refine s_nilW ?_
      refine x_norm ?_
      refine c_retW ?_
      refine x_retb ?_
      refine x_ret ?_
      refine x_ret ?_
      refine x_retb ?_
      refine x_ret ?_
      refine r_ret rfl rfl ⟨?_, Sl.Below.trans' B B2⟩
      have : areSc c rows = false := by
        unfold areSc
        rw [Bool.and_eq_false_iff]; left
        rw [List.all_eq_false]
        exact ⟨_, List.mem_of_getElem? hri, by simpa using hz⟩
      rw [this]; rfl
    · refine c_skipW ?_
      refine x_normb ?_
      refine x_norm ?_
      refine c_regionW ?_
      refine s_valW ev_move ?_
      refine s_valW (ev_addI rfl rfl) ?_
      refine s_valW ev_assign ?_
      refine s_nilW ?_
      refine x_norm ?_
      refine ⟨i + 1, _, rfl, ⟨by omega, ?_, Sl.Below.trans' B B2, _, sl3 rfl rfl rfl⟩, by omega⟩
      intro j r hj hr2
      by_cases hji : j = i
      · subst hji
        rw [hri] at hr2
        cases hr2
        simpa using hz
      · exact hall j r (by omega) hr2
  · refine c_exitW ?_
    refine x_exit ?_
    refine x_exit ?_
    refine x_exitb ?_
    refine x_norm ?_
    refine c_seqW ?_
    refine c_regionW ?_
    refine s_valW ev_move ?_
    refine s_valW (ev_len_slice rfl Tryz.underlying22) ?_
    refine s_valW (ev_le rfl rfl) ?_
    refine s_valW ev_assign ?_
    refine s_nilW ?_
    refine x_norm ?_
    refine c_retW ?_
    refine r_ret rfl rfl ⟨?_, B⟩
    show Value.bool (decide ((rows.length : Int) ≤ 8)) = _
    have h1 : rows.all (isSc c) = true := by
      refine List.all_eq_true.2 fun r hr2 => ?_
      obtain ⟨j, hj⟩ := List.getElem?_of_mem hr2
      have : j < rows.length := (List.getElem?_eq_some_iff.1 hj).1
      exact hall j r (by omega) hj
    unfold areSc
    rw [h1]
    have h2 : decide ((rows.length : Int) ≤ 8) = decide (rows.length ≤ 8) := by
      by_cases h : rows.length ≤ 8
      · rw [decide_eq_true h, decide_eq_true (by omega)]
      · rw [decide_eq_false h, decide_eq_false (by omega)]
    rw [h2]; rfl
end Go.Proofs.YtgikfcmcgpcckaaGreatDoor
