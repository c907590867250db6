/- Walks through functions of the program: each call comes to what its theorem says. A part of the proofs of FnExactDegree and FnExactCoefficient. -/
import Derived.Test.YtgikfcmcgpcckaaGreatDoorLq1
namespace Go.Proofs.YtgikfcmcgpcckaaGreatDoor
open Go Go.RowKit Sl

section
variable {w : World} {q : Addr}

theorem zLawCoef (c : Int) (v : Value) (rows : List (List Nat)) (j : Int) (hE : w.cell? ⟨0, 0, none⟩ = some (eofV q)) (hr : RowsR (wR w) v rows) (hb : ∀ r ∈ rows, ∀ b ∈ r, b < 256) (hm : rows.length ≤ 9223372036854775807) :
    Calls Tryz.prog 4 #[.int .i64 c, v, .int .i64 j] w fun e w' => ∃ u, e = .returned u ∧ (u = .bool true ∧ Below w.heap.size w w') := by
  obtain ⟨p, k, rfl⟩ := hr.slice
  refine bodyW (n := 41) (args := [.int .i64 c, .slice p rows.length k, .int .i64 j]) Tryz.func4 rfl rfl rfl ?_
  refine c_seqW ?_
  refine c_regionW ?_
  refine s_valW ev_assign ?_
  refine s_nilW ?_
  refine x_norm ?_
  refine c_seqW ?_
  refine c_seqW ?_
  refine c_regionW ?_
  refine s_valW ev_move ?_
  refine s_effW (d_call Tryz.call5 (zzFits _ rows _ hr hm)) ?_
  rintro _ _ ⟨rfl, rfl⟩
  refine s_valW (ev_not rfl) ?_
  refine s_nilW ?_
  refine x_norm ?_
  refine c_ifbW rfl (fun hf => ?_) (fun hf => ?_)
  · refine c_seqW ?_
    refine c_regionW ?_
    refine s_valW ev_assign ?_
    refine s_nilW ?_
    refine x_norm ?_
    refine c_retW ?_
    refine x_ret ?_
    exact r_ret rfl rfl ⟨rfl, .refl _ _⟩
  · refine c_skipW ?_
    refine x_norm ?_
    refine c_seqW ?_
    refine c_seqW ?_
    refine c_regionW ?_
    have hl : ∀ r ∈ rows, r.length ≤ 9223372036854775807 := fits_len (by simpa using hf)
    refine s_valW ev_move ?_
    refine s_valW (ev_len_slice rfl Tryz.underlying22) ?_
    by_cases hlen : (rows.length : Int) > 4096
    · refine s_valW (ev_gt_t rfl rfl hlen) ?_
      refine s_valW ev_move ?_
      refine s_skipW rfl rfl rfl ?_
      refine s_skipW rfl rfl rfl ?_
      refine s_skipW rfl rfl rfl ?_
      refine s_valW (ev_pick_t rfl) ?_
      refine s_nilW ?_
      refine x_norm ?_
      refine c_trueW rfl ?_
      refine c_seqW ?_
      refine c_regionW ?_
      refine s_valW ev_assign ?_
      refine s_nilW ?_
      refine x_norm ?_
      refine c_retW ?_
      refine x_ret ?_
      exact r_ret rfl rfl ⟨rfl, .refl _ _⟩
    · refine s_valW (ev_gt_f rfl rfl hlen) ?_
      refine s_valW ev_move ?_
      refine s_valgW rfl rfl ev_move ?_
      refine s_effgW rfl rfl (d_call Tryz.call6 (isCurve c _)) ?_
      rintro _ _ ⟨rfl, rfl⟩
      refine s_valgW rfl rfl (ev_not rfl) ?_
      refine s_valW (ev_pick_f rfl) ?_
      refine s_nilW ?_
      refine x_norm ?_
      refine c_ifbW rfl (fun hcv => ?_) (fun hcv => ?_)
      · refine c_seqW ?_
        refine c_regionW ?_
        refine s_valW ev_assign ?_
        refine s_nilW ?_
        refine x_norm ?_
        refine c_retW ?_
        refine x_ret ?_
        exact r_ret rfl rfl ⟨rfl, .refl _ _⟩
      · refine c_skipW ?_
        refine x_norm ?_
        refine c_seqW ?_
        refine c_seqW ?_
        refine c_regionW ?_
        refine s_valW ev_move ?_
        refine s_valW ev_move ?_
        have hc : 0 ≤ c ∧ c ≤ 2 := by simpa using hcv
        refine s_effW (d_call Tryz.call7 (zAreScalars c hc _ rows _ hr hb hm)) ?_
        rintro _ w1 ⟨rfl, B1⟩
        cases hA : areSc c rows
        · refine s_valW (ev_not rfl) ?_
          refine s_valW ev_move ?_
          refine s_skipW rfl rfl rfl ?_
          refine s_skipW rfl rfl rfl ?_
          refine s_valW (ev_pick_t rfl) ?_
          refine s_valW ev_move ?_
          refine s_skipW rfl rfl rfl ?_
          refine s_skipW rfl rfl rfl ?_
          refine s_skipW rfl rfl rfl ?_
          refine s_skipW rfl rfl rfl ?_
          refine s_valW (ev_pick_t rfl) ?_
          refine s_nilW ?_
          refine x_norm ?_
          refine c_trueW rfl ?_
          refine c_seqW ?_
          refine c_regionW ?_
          refine s_valW ev_assign ?_
          refine s_nilW ?_
          refine x_norm ?_
          refine c_retW ?_
          refine x_ret ?_
          exact r_ret rfl rfl ⟨rfl, B1⟩
        · refine s_valW (ev_not rfl) ?_
          refine s_valW ev_move ?_
          obtain ⟨hsc, h8⟩ := areSc_all hA
          refine s_valgW rfl rfl ev_move ?_
          by_cases hneg : j < 0
          · refine s_valgW rfl rfl (ev_lt_t rfl rfl hneg) ?_
            refine s_valW (ev_pick_f rfl) ?_
            refine s_valW ev_move ?_
            refine s_skipW rfl rfl rfl ?_
            refine s_skipW rfl rfl rfl ?_
            refine s_skipW rfl rfl rfl ?_
            refine s_skipW rfl rfl rfl ?_
            refine s_valW (ev_pick_t rfl) ?_
            refine s_nilW ?_
            refine x_norm ?_
            refine c_trueW rfl ?_
            refine c_seqW ?_
            refine c_regionW ?_
            refine s_valW ev_assign ?_
            refine s_nilW ?_
            refine x_norm ?_
            refine c_retW ?_
            refine x_ret ?_
            exact r_ret rfl rfl ⟨rfl, B1⟩
          · refine s_valgW rfl rfl (ev_lt_f rfl rfl hneg) ?_
            refine s_valW (ev_pick_f rfl) ?_
            refine s_valW ev_move ?_
            refine s_valgW rfl rfl ev_move ?_
            refine s_valgW rfl rfl ev_move ?_
            refine s_valgW rfl rfl (ev_len_slice rfl Tryz.underlying22) ?_
            by_cases hge : j ≥ (rows.length : Int)
            · refine s_valgW rfl rfl (ev_ge_t rfl rfl hge) ?_
              refine s_valW (ev_pick_f rfl) ?_
              refine s_nilW ?_
              refine x_norm ?_
              refine c_trueW rfl ?_
              refine c_seqW ?_
              refine c_regionW ?_
              refine s_valW ev_assign ?_
              refine s_nilW ?_
              refine x_norm ?_
              refine c_retW ?_
              refine x_ret ?_
              exact r_ret rfl rfl ⟨rfl, B1⟩
            · refine s_valgW rfl rfl (ev_ge_f rfl rfl hge) ?_
              refine s_valW (ev_pick_f rfl) ?_
              refine s_nilW ?_
              refine x_norm ?_
              refine c_falseW rfl ?_
              refine c_skipW ?_
              refine x_norm ?_
              refine c_seqW ?_
              refine b_beginW (by kernel_rfl) (Hold w1) 10 ?_
              have hS : (Hold w1) (World.drew w1) := hold_drew
              obtain ⟨i, rfl⟩ : ∃ i : Nat, j = (i : Nat) := ⟨j.toNat, by omega⟩
              have hil : i < rows.length := by omega
              have hri : rows[i]? = some rows[i] := by simp
              obtain ⟨b, o, u, rfl, hc2, hu⟩ := (hr.mono (Sl.Below.rd B1)).at hri
              have hul := hu.slice
              refine b_takeW (calm_then calm_body) hS 0 rfl (by kernel_rfl) (fun _ hS => ev_move) ?_
              refine b_takeW (calm_then calm_body) hS 1 rfl (by kernel_rfl) (fun _ hS => ev_move) ?_
              refine b_takeW (calm_then calm_body) hS 2 rfl (by kernel_rfl) (fun _ hS => ev_move) ?_
              refine b_takeW (calm_then calm_body) hS 4 rfl (by kernel_rfl) (fun _ hS => ev_move) ?_
              refine b_takeW (calm_then calm_body) hS 5 rfl (by kernel_rfl) (fun _ hS => ev_move) ?_
              refine b_takeW (calm_then calm_body) hS 6 rfl (by kernel_rfl) (fun _ hS => ev_ix rfl rfl Tryz.underlying22 Tryz.szT29 hil) ?_
              refine b_takeW (calm_then calm_body) hS 7 rfl (by kernel_rfl) (fun _ hS => ev_load rfl Tryz.underlying29 rfl (hS.cell hc2)) ?_
              refine b_effW 3 rfl (by kernel_rfl) rfl (d_call Tryz.call11 (zImplCoef hc (Sl.Below.cell B1.drew hE) (hr.mono (Sl.Below.rd B1.drew)) hsc hb (by omega) hri)) ?_
              rintro u2 w2 ⟨hu2, B2⟩
              have hS : (Hold w1) w2 := hS.below B2
              refine ⟨hS, ?_⟩
              refine b_effW 8 rfl (by kernel_rfl) rfl (d_call Tryz.call10 (zEqual _ _ _ _ _ hu2 (hu.mono (fun k o h => Sl.Below.rd B2 k o h)) (hl _ (List.mem_of_getElem? hri)))) ?_
              rintro _ w3 ⟨rfl, B3⟩
              have hS : (Hold w1) w3 := hS.below B3
              refine ⟨hS, ?_⟩
              refine b_takeW (calm_then calm_body) hS 9 rfl (by kernel_rfl) (fun _ hS => ev_assign) ?_
              refine b_doneW (by kernel_rfl) ?_
              refine x_norm ?_
              refine c_retW ?_
              refine r_ret rfl rfl ⟨?_, Sl.Below.trans' (Sl.Below.trans' B1.drew B2) B3⟩
              show Value.bool (decide (rows[i] = rows[i])) = _
              rw [decide_eq_true rfl]
end
end Go.Proofs.YtgikfcmcgpcckaaGreatDoor
