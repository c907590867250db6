/- Walks through functions of the program: each call comes to what its theorem says. A part of the proofs of FnExactDegree and FnExactCoefficient. -/
import Derived.Test.YtgikfcmcgpcckaaGreatDoorGp10
namespace Go.Proofs.YtgikfcmcgpcckaaGreatDoor
open Go Go.RowKit Sl

theorem isCurve (c : Int) (w : World) : Calls Tryz.prog 6 #[.int .i64 c] w fun e w' => ∃ v, e = .returned v ∧ (v = .bool (decide (0 ≤ c ∧ c ≤ 2)) ∧ w' = w) := by
  refine bodyW (n := 9) (args := [.int .i64 c]) Tryz.func6 rfl rfl rfl ?_
  by_cases h1 : c ≥ 0
  · by_cases h2 : c ≤ 2
    · have hv : Value.bool true = .bool (decide (0 ≤ c ∧ c ≤ 2)) := by rw [decide_eq_true (by omega)]
      refine c_seqW ?_
      refine c_regionW ?_
      refine s_valW ev_assign ?_
      refine s_nilW ?_
      refine x_norm ?_
      refine c_seqW ?_
      refine c_regionW ?_
      refine s_valW ev_move ?_
      refine s_valW (ev_ge_t rfl rfl h1) ?_
      refine s_valW ev_move ?_
      refine s_valgW rfl rfl ev_move ?_
      refine s_valgW rfl rfl (ev_le_t rfl rfl h2) ?_
      refine s_valW (ev_pick_t rfl) ?_
      refine s_valW ev_assign ?_
      refine s_nilW ?_
      refine x_norm ?_
      refine c_retW ?_
      exact r_ret rfl rfl ⟨hv, rfl⟩
    · have hv : Value.bool false = .bool (decide (0 ≤ c ∧ c ≤ 2)) := by rw [decide_eq_false (by omega)]
      refine c_seqW ?_
      refine c_regionW ?_
      refine s_valW ev_assign ?_
      refine s_nilW ?_
      refine x_norm ?_
      refine c_seqW ?_
      refine c_regionW ?_
      refine s_valW ev_move ?_
      refine s_valW (ev_ge_t rfl rfl h1) ?_
      refine s_valW ev_move ?_
      refine s_valgW rfl rfl ev_move ?_
      refine s_valgW rfl rfl (ev_le_f rfl rfl h2) ?_
      refine s_valW (ev_pick_t rfl) ?_
      refine s_valW ev_assign ?_
      refine s_nilW ?_
      refine x_norm ?_
      refine c_retW ?_
      exact r_ret rfl rfl ⟨hv, rfl⟩
  · have hv : Value.bool false = .bool (decide (0 ≤ c ∧ c ≤ 2)) := by rw [decide_eq_false (by omega)]
    refine c_seqW ?_
    refine c_regionW ?_
    refine s_valW ev_assign ?_
    refine s_nilW ?_
    refine x_norm ?_
    refine c_seqW ?_
    refine c_regionW ?_
    refine s_valW ev_move ?_
    refine s_valW (ev_ge_f rfl rfl h1) ?_
    refine s_valW ev_move ?_
    refine s_skipW rfl rfl rfl ?_
    refine s_skipW rfl rfl rfl ?_
    refine s_valW (ev_pick_f rfl) ?_
    refine s_valW ev_assign ?_
    refine s_nilW ?_
    refine x_norm ?_
    refine c_retW ?_
    exact r_ret rfl rfl ⟨hv, rfl⟩

def fits (rows : List (List Nat)) : Bool := decide (rows.length ≤ 2147483647) && rows.all fun r => decide (r.length ≤ 2147483647)

theorem zzFits (v : Value) (rows : List (List Nat)) (w : World) (hr : RowsR (wR w) v rows) (hm : rows.length ≤ 9223372036854775807) :
    Calls Tryz.prog 5 #[v] w fun e w' => ∃ u, e = .returned u ∧ (u = .bool (fits rows) ∧ w' = w) := by
  obtain ⟨p, c, rfl⟩ := hr.slice
  refine bodyW (n := 18) (args := [.slice p rows.length c]) Tryz.func5 rfl rfl rfl ?_
  by_cases h1 : (rows.length : Int) > 2147483647
  · have hv : Value.bool false = .bool (fits rows) := by
      have : fits rows = false := by unfold fits; rw [decide_eq_false (by omega)]; rfl
      rw [this]
    refine c_seqW ?_
    refine c_regionW ?_
    refine s_valW ev_assign ?_
    refine s_nilW ?_
    refine x_norm ?_
    refine c_seqW ?_
    refine c_seqW ?_
    refine c_regionW ?_
    refine s_valW ev_move ?_
    refine s_valW (ev_len_slice rfl Tryz.underlying22) ?_
    refine s_valW (ev_gt_t rfl rfl h1) ?_
    refine s_nilW ?_
    refine x_norm ?_
    refine c_trueW rfl ?_
    refine c_seqW ?_
    refine c_regionW ?_
    refine s_valW ev_assign ?_
    refine s_nilW ?_
    refine x_norm ?_
    refine c_retW ?_
    refine x_ret ?_
    exact r_ret rfl rfl ⟨hv, rfl⟩
  · refine c_seqW ?_
    refine c_regionW ?_
    refine s_valW ev_assign ?_
    refine s_nilW ?_
    refine x_norm ?_
    refine c_seqW ?_
    refine c_seqW ?_
    refine c_regionW ?_
    refine s_valW ev_move ?_
    refine s_valW (ev_len_slice rfl Tryz.underlying22) ?_
    refine s_valW (ev_gt_f rfl rfl h1) ?_
    refine s_nilW ?_
    refine x_norm ?_
    refine c_falseW rfl ?_
    refine c_skipW ?_
    refine x_norm ?_
    refine c_seqW ?_
    refine c_seqW ?_
    refine c_regionW ?_
    refine s_valW ev_move ?_
    refine s_valW (ev_len_slice rfl Tryz.underlying22) ?_
    refine s_valW ev_move ?_
    refine s_nilW ?_
    refine x_norm ?_
    refine c_blockW ?_
    refine c_loopW (α := Nat) (fun i e w' => i ≤ rows.length ∧ (∀ j r, j < i → rows[j]? = some r → r.length ≤ 2147483647) ∧ w' = w ∧ ∃ e0, e = upd (upd (upd e0 8 (.slice p rows.length c)) 9 (.int .i64 rows.length)) 10 (.int .i64 (i : Nat))) (fun i => rows.length - i) 0 (by exact ⟨by omega, fun j r h => by omega, rfl, _, sl3 rfl rfl rfl⟩) ?_
    rintro i e w1 ⟨hi, hall, rfl, e, rfl⟩
    refine c_seqW ?_
    refine c_regionW ?_
    refine s_valW (ev_lt rfl rfl) ?_
    refine s_nilW ?_
    refine x_norm ?_
    refine c_seqW ?_
    refine c_ifW rfl (fun hlt => ?_) (fun hlt => ?_)
    · refine c_skipW ?_
      refine x_norm ?_
      refine c_seqW ?_
      refine c_blockW ?_
      refine c_seqW ?_
      refine c_regionW ?_
      obtain ⟨bs, hbs⟩ : ∃ bs, rows[i]? = some bs := ⟨rows[i]'(by omega), by simp⟩
      obtain ⟨b, o, u, rfl, hc, hu⟩ := hr.at hbs
      obtain ⟨p2, c2, rfl⟩ := hu.slice
      refine s_valW (ev_ix rfl rfl Tryz.underlying22 Tryz.szT29 (by omega)) ?_
      refine s_valW (ev_load rfl Tryz.underlying29 rfl hc) ?_
      refine s_valW ev_assign ?_
      refine s_nilW ?_
      refine x_norm ?_
      refine c_seqW ?_
      refine c_regionW ?_
      refine s_valW ev_move ?_
      refine s_valW (ev_len_slice rfl Tryz.underlying29) ?_
      refine s_valW (ev_gt rfl rfl) ?_
      refine s_nilW ?_
      refine x_norm ?_
      refine c_ifW rfl (fun hbig => ?_) (fun hbig => ?_)
      · refine c_seqW ?_
        refine c_regionW ?_
        refine s_valW ev_assign ?_
        refine s_nilW ?_
        refine x_norm ?_
        refine c_retW ?_
        refine x_retb ?_
        refine x_ret ?_
        refine x_ret ?_
        refine x_retb ?_
        refine x_ret ?_
        refine r_ret rfl rfl ⟨?_, rfl⟩
        have : fits rows = false := by
          unfold fits
          rw [Bool.and_eq_false_iff]; right
          rw [List.all_eq_false]
          exact ⟨bs, List.mem_of_getElem? hbs, by simp; omega⟩
        rw [this]; rfl
      · refine c_skipW ?_
        refine x_normb ?_
        refine x_norm ?_
        refine c_regionW ?_
        refine s_valW (ev_addI rfl rfl) ?_
        refine s_valW ev_move ?_
        refine s_nilW ?_
        refine x_norm ?_
        refine ⟨i + 1, _, rfl, ⟨by omega, ?_, rfl, _, sl3 rfl rfl rfl⟩, by omega⟩
        intro j r hj hr2
        by_cases hji : j = i
        · subst hji
          rw [hbs] at hr2
          cases hr2
          omega
        · exact hall j r (by omega) hr2
    · refine c_exitW ?_
      refine x_exit ?_
      refine x_exit ?_
      refine x_exitb ?_
      refine x_norm ?_
      refine c_seqW ?_
      refine c_regionW ?_
      refine s_valW ev_assign ?_
      refine s_nilW ?_
      refine x_norm ?_
      refine c_retW ?_
      refine r_ret rfl rfl ⟨?_, rfl⟩
      have : fits rows = true := by
        unfold fits
        rw [Bool.and_eq_true, decide_eq_true_eq]
        refine ⟨by omega, List.all_eq_true.2 fun r hr2 => ?_⟩
        obtain ⟨j, hj⟩ := List.getElem?_of_mem hr2
        have : j < rows.length := (List.getElem?_eq_some_iff.1 hj).1
        simpa using hall j r (by omega) hj
      rw [this]; rfl

section
variable {w : World} {q : Addr}

theorem areSc_all {c : Int} {rows : List (List Nat)} (h : areSc c rows = true) : (∀ r ∈ rows, isSc c r = true) ∧ rows.length ≤ 8 := by
  unfold areSc at h
  rw [Bool.and_eq_true, decide_eq_true_eq] at h
  exact ⟨fun r hr => List.all_eq_true.1 h.1 r hr, h.2⟩

theorem fits_len {rows : List (List Nat)} (h : fits rows = true) : ∀ r ∈ rows, r.length ≤ 9223372036854775807 := by
  unfold fits at h
  rw [Bool.and_eq_true] at h
  intro r hr
  have := List.all_eq_true.1 h.2 r hr
  simp at this
  omega

theorem zLawDegree (c : Int) (v : Value) (rows : List (List Nat)) (hE : w.cell? ⟨0, 0, none⟩ = some (eofV q)) (hr : RowsR (wR w) v rows) (hb : ∀ r ∈ rows, ∀ b ∈ r, b < 256) (hm : rows.length ≤ 9223372036854775807) :
    Calls Tryz.prog 3 #[.int .i64 c, v] w fun e w' => ∃ u, e = .returned u ∧ (u = .bool true ∧ Below w.heap.size w w') := by
  obtain ⟨p, k, rfl⟩ := hr.slice
  refine bodyW (n := 36) (args := [.int .i64 c, .slice p rows.length k]) Tryz.func3 rfl rfl rfl ?_
  refine c_seqW ?_
  refine c_regionW ?_
  refine s_valW ev_assign ?_
  refine s_nilW ?_
  refine x_norm ?_
  refine c_seqW ?_
  refine c_seqW ?_
  refine c_regionW ?_
  refine s_valW ev_move ?_
  refine s_effW (d_call Tryz.call5 (zzFits _ rows _ hr hm)) ?_
  rintro _ _ ⟨rfl, rfl⟩
  refine s_valW (ev_not rfl) ?_
  refine s_nilW ?_
  refine x_norm ?_
  refine c_ifbW rfl (fun hf => ?_) (fun hf => ?_)
  · refine c_seqW ?_
    refine c_regionW ?_
    refine s_valW ev_assign ?_
    refine s_nilW ?_
    refine x_norm ?_
    refine c_retW ?_
    refine x_ret ?_
    exact r_ret rfl rfl ⟨rfl, .refl _ _⟩
  · refine c_skipW ?_
    refine x_norm ?_
    refine c_seqW ?_
    refine c_seqW ?_
    refine c_regionW ?_
    have hl : ∀ r ∈ rows, r.length ≤ 9223372036854775807 := fits_len (by simpa using hf)
    refine s_valW ev_move ?_
    refine s_valW (ev_len_slice rfl Tryz.underlying22) ?_
    by_cases hlen : (rows.length : Int) > 4096
    · refine s_valW (ev_gt_t rfl rfl hlen) ?_
      refine s_valW ev_move ?_
      refine s_skipW rfl rfl rfl ?_
      refine s_skipW rfl rfl rfl ?_
      refine s_skipW rfl rfl rfl ?_
      refine s_valW (ev_pick_t rfl) ?_
      refine s_nilW ?_
      refine x_norm ?_
      refine c_trueW rfl ?_
      refine c_seqW ?_
      refine c_regionW ?_
      refine s_valW ev_assign ?_
      refine s_nilW ?_
      refine x_norm ?_
      refine c_retW ?_
      refine x_ret ?_
      exact r_ret rfl rfl ⟨rfl, .refl _ _⟩
    · refine s_valW (ev_gt_f rfl rfl hlen) ?_
      refine s_valW ev_move ?_
      refine s_valgW rfl rfl ev_move ?_
      refine s_effgW rfl rfl (d_call Tryz.call6 (isCurve c _)) ?_
      rintro _ _ ⟨rfl, rfl⟩
      refine s_valgW rfl rfl (ev_not rfl) ?_
      refine s_valW (ev_pick_f rfl) ?_
      refine s_nilW ?_
      refine x_norm ?_
      refine c_ifbW rfl (fun hcv => ?_) (fun hcv => ?_)
      · refine c_seqW ?_
        refine c_regionW ?_
        refine s_valW ev_assign ?_
        refine s_nilW ?_
        refine x_norm ?_
        refine c_retW ?_
        refine x_ret ?_
        exact r_ret rfl rfl ⟨rfl, .refl _ _⟩
      · refine c_skipW ?_
        refine x_norm ?_
        refine c_seqW ?_
        refine c_seqW ?_
        refine c_regionW ?_
        refine s_valW ev_move ?_
        refine s_valW ev_move ?_
        have hc : 0 ≤ c ∧ c ≤ 2 := by simpa using hcv
        refine s_effW (d_call Tryz.call7 (zAreScalars c hc _ rows _ hr hb hm)) ?_
        rintro _ w1 ⟨rfl, B1⟩
        cases hA : areSc c rows
        · refine s_valW (ev_not rfl) ?_
          refine s_valW ev_move ?_
          refine s_skipW rfl rfl rfl ?_
          refine s_skipW rfl rfl rfl ?_
          refine s_skipW rfl rfl rfl ?_
          refine s_skipW rfl rfl rfl ?_
          refine s_skipuW rfl rfl ?_
          refine s_skipuW rfl rfl ?_
          refine s_skipuW rfl rfl ?_
          refine s_skipW rfl rfl rfl ?_
          refine s_valW (ev_pick_t rfl) ?_
          refine s_nilW ?_
          refine x_norm ?_
          refine c_trueW rfl ?_
          refine c_seqW ?_
          refine c_regionW ?_
          refine s_valW ev_assign ?_
          refine s_nilW ?_
          refine x_norm ?_
          refine c_retW ?_
          refine x_ret ?_
          exact r_ret rfl rfl ⟨rfl, B1⟩
        · refine s_valW (ev_not rfl) ?_
          refine s_valW ev_move ?_
          obtain ⟨hsc, h8⟩ := areSc_all hA
          refine s_valgW rfl rfl ev_move ?_
          refine s_valgW rfl rfl (ev_len_slice rfl Tryz.underlying22) ?_
          by_cases hpos : (rows.length : Int) > 0
          · refine s_valgW rfl rfl (ev_gt_t rfl rfl hpos) ?_
            refine s_valgW rfl rfl ev_move ?_
            refine s_valgW rfl rfl ev_move ?_
            refine s_effgW rfl rfl (d_call Tryz.call8 (zDegree _ rows _ (hr.mono (Sl.Below.rd B1)) hm hl)) ?_
            rintro _ w1 ⟨rfl, rfl⟩
            by_cases hneg : degGo rows 0 (-1) < 0
            · refine s_valgW rfl rfl (ev_lt_t rfl rfl hneg) ?_
              refine s_valgW rfl rfl (ev_pick_t rfl) ?_
              refine s_valW (ev_pick_f rfl) ?_
              refine s_nilW ?_
              refine x_norm ?_
              refine c_trueW rfl ?_
              refine c_seqW ?_
              refine c_regionW ?_
              refine s_valW ev_assign ?_
              refine s_nilW ?_
              refine x_norm ?_
              refine c_retW ?_
              refine x_ret ?_
              exact r_ret rfl rfl ⟨rfl, B1⟩
            · refine s_valgW rfl rfl (ev_lt_f rfl rfl hneg) ?_
              refine s_valgW rfl rfl (ev_pick_t rfl) ?_
              refine s_valW (ev_pick_f rfl) ?_
              refine s_nilW ?_
              refine x_norm ?_
              refine c_falseW rfl ?_
              refine c_skipW ?_
              refine x_norm ?_
              refine c_seqW ?_
              refine c_regionW ?_
              refine s_valW ev_move ?_
              refine s_valW ev_move ?_
              refine s_effW (d_call Tryz.call9 (zImplDegree hc (Sl.Below.cell B1 hE) (hr.mono (Sl.Below.rd B1)) hsc hb (by omega))) ?_
              rintro _ w3 ⟨⟨d, rfl, hd⟩, B3⟩
              have B4 := Sl.Below.trans' B1 B3
              refine s_valW ev_move ?_
              refine s_effW (d_call Tryz.call8 (zDegree _ rows _ (hr.mono (Sl.Below.rd B4)) hm hl)) ?_
              rintro _ w3 ⟨rfl, rfl⟩
              refine s_valW (ev_eq_t rfl rfl (deg_law hd (by omega))) ?_
              refine s_valW ev_assign ?_
              refine s_nilW ?_
              refine x_norm ?_
              refine c_retW ?_
              exact r_ret rfl rfl ⟨rfl, B4⟩
          · refine s_valgW rfl rfl (ev_gt_f rfl rfl hpos) ?_
            refine s_valgW rfl rfl ev_move ?_
            refine s_skipW rfl rfl rfl ?_
            refine s_skipW rfl rfl rfl ?_
            refine s_skipW rfl rfl rfl ?_
            refine s_valgW rfl rfl (ev_pick_f rfl) ?_
            refine s_valW (ev_pick_f rfl) ?_
            refine s_nilW ?_
            refine x_norm ?_
            refine c_falseW rfl ?_
            refine c_skipW ?_
            refine x_norm ?_
            refine c_seqW ?_
            refine c_regionW ?_
            refine s_valW ev_move ?_
            refine s_valW ev_move ?_
            refine s_effW (d_call Tryz.call9 (zImplDegree hc (Sl.Below.cell B1 hE) (hr.mono (Sl.Below.rd B1)) hsc hb (by omega))) ?_
            rintro _ w3 ⟨⟨d, rfl, hd⟩, B3⟩
            have B4 := Sl.Below.trans' B1 B3
            refine s_valW ev_move ?_
            refine s_effW (d_call Tryz.call8 (zDegree _ rows _ (hr.mono (Sl.Below.rd B4)) hm hl)) ?_
            rintro _ w3 ⟨rfl, rfl⟩
            refine s_valW (ev_eq_t rfl rfl (deg_law hd (by omega))) ?_
            refine s_valW ev_assign ?_
            refine s_nilW ?_
            refine x_norm ?_
            refine c_retW ?_
            exact r_ret rfl rfl ⟨rfl, B4⟩
end
end Go.Proofs.YtgikfcmcgpcckaaGreatDoor
