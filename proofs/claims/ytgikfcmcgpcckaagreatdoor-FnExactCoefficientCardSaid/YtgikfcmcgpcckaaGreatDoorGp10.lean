/- Walks through functions of the program: each call comes to what its theorem says. A part of the proofs of FnExactDegree and FnExactCoefficient. -/
import Derived.Test.YtgikfcmcgpcckaaGreatDoorGp9
namespace Go.Proofs.YtgikfcmcgpcckaaGreatDoor
open Go Go.RowKit Sl

/-- What the degree comes to. -/
def DegRes (rows : List (List Nat)) (d : Int) : Prop :=
  (rows = [] ∧ d = -1) ∨ ∃ i : Nat, d = (i : Nat) ∧ i < rows.length ∧ (∀ j r, i < j → rows[j]? = some r → zeroB r = true) ∧ (i = 0 ∨ ∃ r, rows[i]? = some r ∧ zeroB r = false)

theorem degGo_same (rows : List (List Nat)) (i : Nat) (hz : ∀ j r, i ≤ j → rows[j]? = some r → zeroB r = true) :
    ∀ n, i + n ≤ rows.length → degGo (rows.take (i + n)) 0 (-1) = degGo (rows.take i) 0 (-1)
  | 0, _ => rfl
  | n + 1, h => by
    have h1 : i + n < rows.length := by omega
    rw [← Nat.add_assoc, degGo_take rows (i + n) h1, if_pos (hz (i + n) _ (by omega) (by simp)), degGo_same rows i hz n (by omega)]

/-- Where the last coefficient is not 0, both tell the same. -/
theorem deg_law {rows : List (List Nat)} {d : Int} (h : DegRes rows d) (hz : ¬ (0 < rows.length ∧ degGo rows 0 (-1) < 0)) : d = degGo rows 0 (-1) := by
  rcases h with ⟨rfl, rfl⟩ | ⟨i, rfl, hi, hall, hend⟩
  · rfl
  · have h1 := degGo_same rows (i + 1) (fun j r hj hr => hall j r (by omega) hr) (rows.length - (i + 1)) (by omega)
    have h2 : i + 1 + (rows.length - (i + 1)) = rows.length := by omega
    rw [h2, List.take_length] at h1
    rw [degGo_take rows i hi] at h1
    by_cases hzi : zeroB rows[i] = true
    · exfalso
      rcases hend with rfl | ⟨r, hr, hrz⟩
      · rw [if_pos hzi] at h1
        refine hz ⟨by omega, ?_⟩
        rw [h1]
        show (-1 : Int) < 0
        omega
      · rw [List.getElem?_eq_getElem hi] at hr
        cases hr
        rw [hzi] at hrz
        cases hrz
    · rw [if_neg hzi] at h1
      exact h1.symm

section
variable {w : World}

theorem zDeg {c : Int} {sv : Value} {rows : List (List Nat)} (hr : SclsR (wR w) c sv rows) (hb : ∀ r ∈ rows, ∀ b ∈ r, b < 256) (hm : rows.length ≤ 1000) :
    Calls Tryz.prog 17 #[.agg #[sv]] w fun e w' => ∃ u, e = .returned u ∧ ((∃ d, u = .int .i64 d ∧ DegRes rows d) ∧ Below w.heap.size w w') := by
  obtain ⟨p, k, rfl⟩ := hr.slice
  refine bodyW (n := 21) (args := [.agg #[.slice p rows.length k]]) Tryz.func17 rfl rfl rfl ?_
  refine c_seqW ?_
  refine c_regionW ?_
  refine s_effW (d_box (cs := #[.slice p rows.length k]) (Own.begin w) rfl) ?_
  rintro _ w1 ⟨tb, rfl, H1⟩
  refine s_valW ev_assign ?_
  refine s_nilW ?_
  refine x_norm ?_
  refine c_seqW ?_
  refine c_regionW ?_
  refine s_valW (ev_field rfl Tryz.underlying36 rfl Tryz.szT34 rfl) ?_
  refine s_valW ((ev_loadH rfl Tryz.underlying34 rfl (H1.heap1 0 rfl) rfl : Ev Tryz.prog _ _ _ _ (.slice p rows.length k))) ?_
  refine s_valW (ev_len_slice rfl Tryz.underlying34) ?_
  refine s_valW (ev_subI rfl rfl) ?_
  refine s_valW ev_assign ?_
  refine s_nilW ?_
  refine x_norm ?_
  refine c_seqW ?_
  refine c_blockW ?_
  refine c_loopW (α := Nat) (fun m e w' => m ≤ rows.length ∧ (m = 0 → rows.length = 0) ∧ (∀ j r, m ≤ j → rows[j]? = some r → zeroB r = true) ∧ Own (fun k => k < w.heap.size) w w' [Hl.one tb (.cells #[.slice p rows.length k] 36 (0, 0))] ∧ ∃ i e0, i = ((m : Nat) : Int) - 1 ∧ e = upd (upd e0 1 (.pointer (some ⟨tb, 0, none⟩))) 3 (.int .i64 i)) (fun m => m) rows.length (by exact ⟨Nat.le_refl _, id, fun j r hj h => (by rw [List.getElem?_eq_none hj] at h; cases h), H1, _, _, rfl, sl2 rfl rfl⟩) ?_
  rintro m e w2 ⟨hmr, hm0, hall, H2, i, e, hi, rfl⟩
  refine c_seqW ?_
  refine c_seqW ?_
  refine c_regionW ?_
  refine s_valW ev_move ?_
  by_cases hgt : i > 0
  · refine s_valW (ev_gt_t rfl rfl hgt) ?_
    refine s_valW ev_move ?_
    refine s_valgW rfl rfl (ev_field rfl Tryz.underlying36 rfl Tryz.szT34 rfl) ?_
    refine s_valgW rfl rfl ((ev_loadH rfl Tryz.underlying34 rfl (H2.heap1 0 rfl) rfl : Ev Tryz.prog _ _ _ _ (.slice p rows.length k))) ?_
    refine s_valgW rfl rfl ev_move ?_
    obtain ⟨q, rfl⟩ : ∃ q, m = q + 2 := ⟨m - 2, by omega⟩
    obtain rfl : i = ((q + 1 : Nat) : Int) := by omega
    have hil : q + 1 < rows.length := by omega
    have hri : rows[q + 1]? = some rows[q + 1] := by simp
    obtain ⟨rb, ro, rcs, rt, rfz, ru, rfl, hc1, hc2, hu⟩ := hr.at hri
    have hc1 := Sl.Below.rd H2.toBelow _ _ hc1
    obtain ⟨sb, scv, sod, skv, rfl, _⟩ := id hu
    refine s_valgW rfl rfl (ev_ix (i := q + 1) rfl rfl Tryz.underlying34 Tryz.szT45 (by omega)) ?_
    refine s_valgW rfl rfl ((ev_loadH rfl Tryz.underlying45 rfl hc1 hc2 : Ev Tryz.prog _ _ _ _ (.iface 159 (.pointer (some ⟨sb, 0, none⟩))))) ?_
    refine s_effgW rfl rfl (d_invoke (isZeroM sb _) (zIsZeroS (hu.mono (Sl.Below.rd H2.toBelow)) (hb _ (List.mem_of_getElem? hri)))) ?_
    rintro _ w3 ⟨rfl, B3⟩
    refine s_valW (ev_pick_t rfl) ?_
    refine s_nilW ?_
    refine x_norm ?_
    refine c_ifbW rfl (fun hz => ?_) (fun hz => ?_)
    · refine c_skipW ?_
      refine x_norm ?_
      refine c_blockW ?_
      refine c_regionW ?_
      refine s_valW ev_move ?_
      refine s_valW (ev_subIv (k := (q : Nat)) rfl rfl (by omega) (by omega) (by omega)) ?_
      refine s_valW ev_assign ?_
      refine s_nilW ?_
      refine x_normb ?_
      refine x_norm ?_
      refine ⟨q + 1, _, rfl, ⟨by omega, by omega, ?_, H2.below B3, _, _, ?_, sl2 rfl rfl⟩, by omega⟩
      · intro j r hj hjr
        by_cases hjq : j = q + 1
        · subst hjq
          rw [hri] at hjr
          cases hjr
          exact hz
        · exact hall j r (by omega) hjr
      · omega
    · refine c_exitW ?_
      refine x_exit ?_
      refine x_exit ?_
      refine x_exitb ?_
      refine x_norm ?_
      refine c_seqW ?_
      refine c_regionW ?_
      refine s_valW ev_move ?_
      refine s_valW ev_assign ?_
      refine s_nilW ?_
      refine x_norm ?_
      refine c_retW ?_
      refine r_ret rfl rfl ⟨⟨_, rfl, .inr ⟨q + 1, rfl, hil, fun j r hj hjr => hall j r (by omega) hjr, .inr ⟨_, hri, hz⟩⟩⟩, (H2.below B3).toBelow⟩
  · refine s_valW (ev_gt_f rfl rfl hgt) ?_
    refine s_valW ev_move ?_
    refine s_skipW rfl rfl rfl ?_
    refine s_skipW rfl rfl rfl ?_
    refine s_skipW rfl rfl rfl ?_
    refine s_skipW rfl rfl rfl ?_
    refine s_skipW rfl rfl rfl ?_
    refine s_skipW rfl rfl rfl ?_
    refine s_valW (ev_pick_f rfl) ?_
    refine s_nilW ?_
    refine x_norm ?_
    refine c_falseW rfl ?_
    refine c_exitW ?_
    refine x_exit ?_
    refine x_exit ?_
    refine x_exitb ?_
    refine x_norm ?_
    refine c_seqW ?_
    refine c_regionW ?_
    refine s_valW ev_move ?_
    refine s_valW ev_assign ?_
    refine s_nilW ?_
    refine x_norm ?_
    refine c_retW ?_
    refine r_ret rfl rfl ⟨⟨_, rfl, ?_⟩, H2.toBelow⟩
    show DegRes rows i
    by_cases hm1 : m = 0
    · exact .inl ⟨List.length_eq_zero_iff.1 (hm0 hm1), by omega⟩
    · exact .inr ⟨0, by omega, by omega, fun j r hj hjr => hall j r (by omega) hjr, .inl rfl⟩

theorem zCoef {c : Int} {sv : Value} {rows : List (List Nat)} {i : Nat} {bs : List Nat} (hr : SclsR (wR w) c sv rows) (hi : rows[i]? = some bs) (hm : rows.length ≤ 1000) :
    Calls Tryz.prog 19 #[.agg #[sv], .int .u64 (i : Nat)] w fun e w' => ∃ u, e = .returned u ∧ (Scl (wR w') c u bs ∧ Below w.heap.size w w') := by
  obtain ⟨p, k, rfl⟩ := hr.slice
  have hil : i < rows.length := (List.getElem?_eq_some_iff.1 hi).1
  obtain ⟨rb, ro, rcs, rt, rfz, ru, rfl, hc1, hc2, hu⟩ := hr.at hi
  obtain ⟨sb, scv, sod, skv, rfl, _⟩ := id hu
  refine bodyW (n := 18) (args := [.agg #[.slice (some ⟨rb, ro, none⟩) rows.length k], .int .u64 (i : Nat)]) Tryz.func19 rfl rfl rfl ?_
  refine c_seqW ?_
  refine c_regionW ?_
  refine s_effW (d_box (cs := #[.slice (some ⟨rb, ro, none⟩) rows.length k]) (Own.begin w) rfl) ?_
  rintro _ w1 ⟨tb, rfl, H1⟩
  refine s_valW ev_assign ?_
  refine s_nilW ?_
  refine x_norm ?_
  refine c_seqW ?_
  refine c_seqW ?_
  refine c_regionW ?_
  refine s_valW ev_move ?_
  refine s_valW (ev_convI rfl Tryz.underlying47 Tryz.underlying3 (by omega)) ?_
  refine s_valW (ev_field rfl Tryz.underlying36 rfl Tryz.szT34 rfl) ?_
  refine s_valW ((ev_loadH rfl Tryz.underlying34 rfl (H1.heap1 0 rfl) rfl : Ev Tryz.prog _ _ _ _ (.slice (some ⟨rb, ro, none⟩) rows.length k))) ?_
  refine s_valW (ev_len_slice rfl Tryz.underlying34) ?_
  refine s_valW (ev_ge_f rfl rfl (by omega)) ?_
  refine s_nilW ?_
  refine x_norm ?_
  refine c_falseW rfl ?_
  refine c_skipW ?_
  refine x_norm ?_
  refine c_seqW ?_
  refine c_regionW ?_
  refine s_valW (ev_field rfl Tryz.underlying36 rfl Tryz.szT34 rfl) ?_
  refine s_valW ((ev_loadH rfl Tryz.underlying34 rfl (H1.heap1 0 rfl) rfl : Ev Tryz.prog _ _ _ _ (.slice (some ⟨rb, ro, none⟩) rows.length k))) ?_
  refine s_valW ev_move ?_
  refine s_valW (ev_ix rfl rfl Tryz.underlying34 Tryz.szT45 hil) ?_
  refine s_valW ((ev_loadH rfl Tryz.underlying45 rfl (Sl.Below.rd H1.toBelow _ _ hc1) hc2 : Ev Tryz.prog _ _ _ _ (.iface 159 (.pointer (some ⟨sb, 0, none⟩))))) ?_
  refine s_effW (d_invoke (copyM sb _) (zCopy (R := wR w) (Sl.Below.rd H1.toBelow) hu)) ?_
  rintro u2 w2 ⟨hn, M, hS⟩
  refine s_valW ev_assign ?_
  refine s_nilW ?_
  refine x_norm ?_
  refine c_retW ?_
  exact r_ret rfl rfl ⟨hS.mono fun k o h => h.elim (fun h1 => Sl.Below.rd (Sl.Below.trans' H1.toBelow M.below) k o h1) (fun h1 => (M.new k o h1).2), Sl.Below.trans' H1.toBelow M.below⟩

theorem zImplDegree {c : Int} {v : Value} {rows : List (List Nat)} {q : Addr} (hc : 0 ≤ c ∧ c ≤ 2) (hE : w.cell? ⟨0, 0, none⟩ = some (eofV q)) (hr : RowsR (wR w) v rows) (hs : ∀ r ∈ rows, isSc c r = true) (hb : ∀ r ∈ rows, ∀ b ∈ r, b < 256) (hm : rows.length ≤ 1000) :
    Calls Tryz.prog 9 #[.int .i64 c, v] w fun e w' => ∃ u, e = .returned u ∧ ((∃ d, u = .int .i64 d ∧ DegRes rows d) ∧ Below w.heap.size w w') := by
  refine bodyW (n := 11) (args := [.int .i64 c, v]) Tryz.func9 rfl rfl rfl ?_
  refine c_seqW ?_
  refine c_regionW ?_
  refine s_valW ev_assign ?_
  refine s_nilW ?_
  refine x_norm ?_
  refine c_seqW ?_
  refine c_regionW ?_
  refine s_valW ev_move ?_
  refine s_effW (d_call Tryz.call16 (zGroupOf c hc hE)) ?_
  rintro _ w1 ⟨⟨cv, od, rfl, hg⟩, B1⟩
  refine s_valW ev_move ?_
  refine s_effW (d_call Tryz.call15 (zScalarsOf hg (hr.mono (Sl.Below.rd B1)) hs hb hm)) ?_
  rintro sv w2 ⟨hsv, B2⟩
  refine s_effW (d_call Tryz.call14 (zNew hsv hm)) ?_
  rintro _ w3 ⟨⟨nv, rfl, hnv⟩, B3⟩
  refine s_effW (d_call Tryz.call17 (zDeg hnv hb hm)) ?_
  rintro _ w4 ⟨⟨d, rfl, hd⟩, B4⟩
  refine s_valW ev_assign ?_
  refine s_nilW ?_
  refine x_norm ?_
  refine c_retW ?_
  exact r_ret rfl rfl ⟨⟨d, rfl, hd⟩, Sl.Below.trans' (Sl.Below.trans' (Sl.Below.trans' B1 B2) B3) B4⟩

theorem zImplCoef {c : Int} {v : Value} {rows : List (List Nat)} {q : Addr} {i : Nat} {bs : List Nat} (hc : 0 ≤ c ∧ c ≤ 2) (hE : w.cell? ⟨0, 0, none⟩ = some (eofV q)) (hr : RowsR (wR w) v rows) (hs : ∀ r ∈ rows, isSc c r = true) (hb : ∀ r ∈ rows, ∀ b ∈ r, b < 256) (hm : rows.length ≤ 1000) (hi : rows[i]? = some bs) :
    Calls Tryz.prog 11 #[.int .i64 c, v, .int .i64 (i : Nat)] w fun e w' => ∃ u, e = .returned u ∧ (BytesR (wR w') u bs ∧ Below w.heap.size w w') := by
  have hil : i < rows.length := (List.getElem?_eq_some_iff.1 hi).1
  refine bodyW (n := 16) (args := [.int .i64 c, v, .int .i64 (i : Nat)]) Tryz.func11 rfl rfl rfl ?_
  refine c_seqW ?_
  refine c_regionW ?_
  refine s_valW ev_assign ?_
  refine s_nilW ?_
  refine x_norm ?_
  refine c_seqW ?_
  refine c_regionW ?_
  refine s_valW ev_move ?_
  refine s_effW (d_call Tryz.call16 (zGroupOf c hc hE)) ?_
  rintro _ w1 ⟨⟨cv, od, rfl, hg⟩, B1⟩
  refine s_valW ev_move ?_
  refine s_effW (d_call Tryz.call15 (zScalarsOf hg (hr.mono (Sl.Below.rd B1)) hs hb hm)) ?_
  rintro sv w2 ⟨hsv, B2⟩
  refine s_effW (d_call Tryz.call14 (zNew hsv hm)) ?_
  rintro _ w3 ⟨⟨nv, rfl, hnv⟩, B3⟩
  refine s_valW ev_move ?_
  refine s_valW (ev_convU rfl Tryz.underlying3 Tryz.underlying47 (by omega)) ?_
  refine s_effW (d_call Tryz.call19 (zCoef hnv hi hm)) ?_
  rintro u4 w4 ⟨hS, B4⟩
  refine s_effW (d_call Tryz.call18 (zBytesOf hS)) ?_
  rintro u5 w5 ⟨hu5, B5⟩
  refine s_valW ev_assign ?_
  refine s_nilW ?_
  refine x_norm ?_
  refine c_retW ?_
  exact r_ret rfl rfl ⟨hu5, Sl.Below.trans' (Sl.Below.trans' (Sl.Below.trans' (Sl.Below.trans' B1 B2) B3) B4) B5⟩
end
end Go.Proofs.YtgikfcmcgpcckaaGreatDoor
