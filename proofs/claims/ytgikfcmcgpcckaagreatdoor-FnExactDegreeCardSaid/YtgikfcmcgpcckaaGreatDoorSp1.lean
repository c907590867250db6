/- Walks through functions of the program: each call comes to what its theorem says. A part of the proofs of FnExactDegree and FnExactCoefficient. -/
import Derived.Test.YtgikfcmcgpcckaaGreatDoorTy
namespace Go.Proofs.YtgikfcmcgpcckaaGreatDoor
open Go Go.RowKit Sl

theorem zIsZero (v : Value) (bs : List Nat) (w : World) (hr : BytesR (wR w) v bs) (hm : bs.length ≤ 9223372036854775807) :
    Calls Tryz.prog 13 #[v] w fun e w' => ∃ u, e = .returned u ∧ (u = .bool (zeroB bs) ∧ w' = w) := by
  obtain ⟨p, c, rfl⟩ := hr.slice
  refine bodyW (n := 15) (args := [.slice p bs.length c]) Tryz.func13 rfl rfl rfl ?_
  refine c_seqW ?_
  refine c_regionW ?_
  refine s_valW ev_assign ?_
  refine s_nilW ?_
  refine x_norm ?_
  refine c_seqW ?_
  refine c_seqW ?_
  refine c_regionW ?_
  refine s_valW ev_assign ?_
  refine s_nilW ?_
  refine x_norm ?_
  refine c_blockW ?_
  refine c_loopW (α := Nat) (fun i e w' => i ≤ bs.length ∧ (∀ j x, j < i → bs[j]? = some x → x = 0) ∧ w' = w ∧ ∃ e0, e = upd (upd e0 0 (.slice p bs.length c)) 3 (.int .i64 (i : Nat))) (fun i => bs.length - i) 0 (by exact ⟨by omega, fun j r h => by omega, rfl, _, sl2 rfl rfl⟩) ?_
  rintro i e w1 ⟨hi, hall, rfl, e, rfl⟩
  refine c_seqW ?_
  refine c_seqW ?_
  refine c_regionW ?_
  refine s_valW ev_move ?_
  refine s_valW ev_move ?_
  refine s_valW (ev_len_slice rfl Tryz.underlying29) ?_
  refine s_valW (ev_lt rfl rfl) ?_
  refine s_nilW ?_
  refine x_norm ?_
  refine c_ifW rfl (fun hlt => ?_) (fun hlt => ?_)
  · refine c_skipW ?_
    refine x_norm ?_
    refine c_seqW ?_
    refine c_blockW ?_
    refine c_seqW ?_
    refine c_regionW ?_
    refine s_valW ev_move ?_
    refine s_valW ev_move ?_
    obtain ⟨x, hx⟩ : ∃ x, bs[i]? = some x := ⟨bs[i]'(by omega), by simp⟩
    obtain ⟨b, o, rfl, hc⟩ := hr.at hx
    refine s_valW (ev_ix rfl rfl Tryz.underlying29 Tryz.szT5 (by omega)) ?_
    refine s_valW (ev_load rfl Tryz.underlying5 rfl hc) ?_
    refine s_valW (ev_ne rfl rfl) ?_
    refine s_nilW ?_
    refine x_norm ?_
    refine c_ifW rfl (fun hne => ?_) (fun hne => ?_)
    · refine c_seqW ?_
      refine c_regionW ?_
      refine s_valW ev_assign ?_
      refine s_nilW ?_
      refine x_norm ?_
      refine c_retW ?_
      refine x_retb ?_
      refine x_ret ?_
      refine x_ret ?_
      refine x_retb ?_
      refine x_ret ?_
      refine r_ret rfl rfl ⟨?_, rfl⟩
      have : zeroB bs = false := by
        unfold zeroB
        rw [List.all_eq_false]
        exact ⟨x, List.mem_of_getElem? hx, by simp; omega⟩
      rw [this]; rfl
    · refine c_skipW ?_
      refine x_normb ?_
      refine x_norm ?_
      refine c_regionW ?_
      refine s_valW ev_move ?_
      refine s_valW (ev_addI rfl rfl) ?_
      refine s_valW ev_assign ?_
      refine s_nilW ?_
      refine x_norm ?_
      refine ⟨i + 1, _, rfl, ⟨by omega, ?_, rfl, _, sl2 rfl rfl⟩, by omega⟩
      intro j y hj hy
      by_cases hji : j = i
      · subst hji
        rw [hx] at hy; cases hy
        omega
      · exact hall j y (by omega) hy
  · refine c_exitW ?_
    refine x_exit ?_
    refine x_exit ?_
    refine x_exitb ?_
    refine x_norm ?_
    refine c_seqW ?_
    refine c_regionW ?_
    refine s_valW ev_assign ?_
    refine s_nilW ?_
    refine x_norm ?_
    refine c_retW ?_
    refine r_ret rfl rfl ⟨?_, rfl⟩
    have : zeroB bs = true := by
      unfold zeroB
      refine List.all_eq_true.2 fun r hr2 => ?_
      obtain ⟨j, hj⟩ := List.getElem?_of_mem hr2
      have : j < bs.length := (List.getElem?_eq_some_iff.1 hj).1
      simpa using hall j r (by omega) hj
    rw [this]; rfl

theorem zDegree (v : Value) (rows : List (List Nat)) (w : World) (hr : RowsR (wR w) v rows) (hm : rows.length ≤ 9223372036854775807) (hb : ∀ r ∈ rows, r.length ≤ 9223372036854775807) :
    Calls Tryz.prog 8 #[v] w fun e w' => ∃ u, e = .returned u ∧ (u = .int .i64 (degGo rows 0 (-1)) ∧ w' = w) := by
  obtain ⟨p, c, rfl⟩ := hr.slice
  refine bodyW (n := 19) (args := [.slice p rows.length c]) Tryz.func8 rfl rfl rfl ?_
  refine c_seqW ?_
  refine c_regionW ?_
  refine s_valW ev_assign ?_
  refine s_nilW ?_
  refine x_norm ?_
  refine c_seqW ?_
  refine c_regionW ?_
  refine s_valW ev_assign ?_
  refine s_nilW ?_
  refine x_norm ?_
  refine c_seqW ?_
  refine c_seqW ?_
  refine c_regionW ?_
  refine s_valW ev_assign ?_
  refine s_nilW ?_
  refine x_norm ?_
  refine c_blockW ?_
  refine c_loopW (α := Nat) (fun i e w' => i ≤ rows.length ∧ w' = w ∧ ∃ e0, e = upd (upd (upd e0 0 (.slice p rows.length c)) 3 (.int .i64 (degGo (rows.take i) 0 (-1)))) 4 (.int .i64 (i : Nat))) (fun i => rows.length - i) 0 (by exact ⟨by omega, rfl, _, sl3 rfl rfl rfl⟩) ?_
  rintro i e w1 ⟨hi, rfl, e, rfl⟩
  refine c_seqW ?_
  refine c_seqW ?_
  refine c_regionW ?_
  refine s_valW ev_move ?_
  refine s_valW ev_move ?_
  refine s_valW (ev_len_slice rfl Tryz.underlying22) ?_
  refine s_valW (ev_lt rfl rfl) ?_
  refine s_nilW ?_
  refine x_norm ?_
  refine c_ifW rfl (fun hlt => ?_) (fun hlt => ?_)
  · refine c_skipW ?_
    refine x_norm ?_
    refine c_seqW ?_
    refine c_blockW ?_
    refine c_seqW ?_
    refine c_regionW ?_
    refine s_valW ev_move ?_
    refine s_valW ev_move ?_
    have hil : i < rows.length := by omega
    obtain ⟨b, o, u, rfl, hc, hu⟩ := hr.at (i := i) (bs := rows[i]) (by simp)
    refine s_valW (ev_ix rfl rfl Tryz.underlying22 Tryz.szT29 (by omega)) ?_
    refine s_valW (ev_load rfl Tryz.underlying29 rfl hc) ?_
    refine s_effW (d_call Tryz.call13 (zIsZero _ _ _ hu (hb _ (by simp)))) ?_
    rintro _ _ ⟨rfl, rfl⟩
    refine s_valW (ev_not rfl) ?_
    refine s_nilW ?_
    refine x_norm ?_
    refine c_ifbW rfl (fun hz => ?_) (fun hz => ?_)
    · refine c_regionW ?_
      refine s_valW ev_move ?_
      refine s_valW ev_assign ?_
      refine s_nilW ?_
      refine x_normb ?_
      refine x_norm ?_
      refine c_regionW ?_
      refine s_valW ev_move ?_
      refine s_valW (ev_addI rfl rfl) ?_
      refine s_valW ev_assign ?_
      refine s_nilW ?_
      refine x_norm ?_
      refine ⟨i + 1, _, rfl, ⟨by omega, rfl, ?_⟩, by omega⟩
      have h := degGo_take rows i hil
      simp only [Bool.not_eq_true'] at hz
      simp only [hz, if_false, Bool.false_eq_true] at h
      rw [h]
      exact ⟨_, sl3 rfl rfl rfl⟩
    · refine c_skipW ?_
      refine x_normb ?_
      refine x_norm ?_
      refine c_regionW ?_
      refine s_valW ev_move ?_
      refine s_valW (ev_addI rfl rfl) ?_
      refine s_valW ev_assign ?_
      refine s_nilW ?_
      refine x_norm ?_
      refine ⟨i + 1, _, rfl, ⟨by omega, rfl, ?_⟩, by omega⟩
      have h := degGo_take rows i hil
      simp only [Bool.not_eq_false'] at hz
      simp only [hz, if_true] at h
      rw [h]
      exact ⟨_, sl3 rfl rfl rfl⟩
  · refine c_exitW ?_
    refine x_exit ?_
    refine x_exit ?_
    refine x_exitb ?_
    refine x_norm ?_
    refine c_seqW ?_
    refine c_regionW ?_
    refine s_valW ev_move ?_
    refine s_valW ev_assign ?_
    refine s_nilW ?_
    refine x_norm ?_
    refine c_retW ?_
    refine r_ret rfl rfl ⟨?_, rfl⟩
    have : i = rows.length := by omega
    subst this
    rw [List.take_length]
    rfl
end Go.Proofs.YtgikfcmcgpcckaaGreatDoor
