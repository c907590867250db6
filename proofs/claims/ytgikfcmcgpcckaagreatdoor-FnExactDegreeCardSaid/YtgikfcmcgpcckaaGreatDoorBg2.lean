/- Walks through functions of the program: each call comes to what its theorem says. A part of the proofs of FnExactDegree and FnExactCoefficient. -/
import Derived.Test.YtgikfcmcgpcckaaGreatDoorBg1
namespace Go.Proofs.YtgikfcmcgpcckaaGreatDoor
open Go Go.RowKit Sl

section
variable {K : Nat → Prop} {W0 w : World} {L : List Hl} {i : Nat} {h : Hl}

theorem zNatMake (H : Own K W0 w L) (i : Nat) (hi : L[i]? = some h) (hw : WH h) (z : Value) (n m : Nat) (hz : Nv h z m) (hn : 1 ≤ n) (hn2 : n ≤ 1000000) (_hm2 : m ≤ 1000000) :
    Calls Tryz.prog 48 #[z, .int .i64 (n : Nat)] w fun e w' => ∃ u, e = .returned u ∧ ∃ h', Own K W0 w' (L.set i h') ∧ Nst h h' ∧ Nv h' u n := by
  obtain ⟨p, c, rfl⟩ := hz.slice
  refine bodyW (n := 19) (args := [.slice p m c, .int .i64 (n : Nat)]) Tryz.func48 rfl rfl rfl ?_
  by_cases hc : (n : Int) ≤ (c : Nat)
  · refine c_seqW ?_
    refine c_regionW ?_
    refine s_valW ev_assign ?_
    refine s_nilW ?_
    refine x_norm ?_
    refine c_seqW ?_
    refine c_seqW ?_
    refine c_regionW ?_
    refine s_valW ev_move ?_
    refine s_valW ev_move ?_
    refine s_valW (ev_cap_slice rfl Tryz.underlying78) ?_
    refine s_valW (ev_le_t rfl rfl hc) ?_
    refine s_nilW ?_
    refine x_norm ?_
    refine c_trueW rfl ?_
    refine c_seqW ?_
    refine c_regionW ?_
    refine s_valW ev_move ?_
    refine s_valW ev_move ?_
    refine s_valW (ev_slice_h rfl rfl Tryz.underlying78 Tryz.szT98 (by omega)) ?_
    refine s_valW ev_assign ?_
    refine s_nilW ?_
    refine x_norm ?_
    refine c_retW ?_
    refine x_ret ?_
    exact r_ret rfl rfl ⟨h, by rw [set_self hi]; exact H, .refl hw, hz.cut (by omega)⟩
  · by_cases h1 : (n : Int) = 1
    · obtain rfl : n = 1 := by omega
      refine c_seqW ?_
      refine c_regionW ?_
      refine s_valW ev_assign ?_
      refine s_nilW ?_
      refine x_norm ?_
      refine c_seqW ?_
      refine c_seqW ?_
      refine c_regionW ?_
      refine s_valW ev_move ?_
      refine s_valW ev_move ?_
      refine s_valW (ev_cap_slice rfl Tryz.underlying78) ?_
      refine s_valW (ev_le_f rfl rfl hc) ?_
      refine s_nilW ?_
      refine x_norm ?_
      refine c_falseW rfl ?_
      refine c_skipW ?_
      refine x_norm ?_
      refine c_seqW ?_
      refine c_seqW ?_
      refine c_regionW ?_
      refine s_valW ev_move ?_
      refine s_valW (ev_eq_t rfl rfl h1) ?_
      refine s_nilW ?_
      refine x_norm ?_
      refine c_trueW rfl ?_
      refine c_seqW ?_
      refine c_regionW ?_
      refine s_effW (d_makeW (nn := 1) (mm := 1) H i hi hw rfl rfl Tryz.underlying78 Tryz.infT98 (by omega) (by omega)) ?_
      rintro _ w1 ⟨h1, H1, S1, hv⟩
      refine s_valW ev_assign ?_
      refine s_nilW ?_
      refine x_norm ?_
      refine c_retW ?_
      refine x_ret ?_
      exact r_ret rfl rfl ⟨h1, H1, S1, hv⟩
    · refine c_seqW ?_
      refine c_regionW ?_
      refine s_valW ev_assign ?_
      refine s_nilW ?_
      refine x_norm ?_
      refine c_seqW ?_
      refine c_seqW ?_
      refine c_regionW ?_
      refine s_valW ev_move ?_
      refine s_valW ev_move ?_
      refine s_valW (ev_cap_slice rfl Tryz.underlying78) ?_
      refine s_valW (ev_le_f rfl rfl hc) ?_
      refine s_nilW ?_
      refine x_norm ?_
      refine c_falseW rfl ?_
      refine c_skipW ?_
      refine x_norm ?_
      refine c_seqW ?_
      refine c_seqW ?_
      refine c_regionW ?_
      refine s_valW ev_move ?_
      refine s_valW (ev_eq_f rfl rfl h1) ?_
      refine s_nilW ?_
      refine x_norm ?_
      refine c_falseW rfl ?_
      refine c_skipW ?_
      refine x_norm ?_
      refine c_seqW ?_
      refine c_regionW ?_
      refine s_valW ev_move ?_
      refine s_valW ev_move ?_
      refine s_valW ((by simpa using ev_addI (i := (n : Nat)) (j := 4) rfl rfl : Ev Tryz.prog _ _ _ _ (.int .i64 ((n + 4 : Nat) : Int)))) ?_
      refine s_effW (d_makeW (nn := n) (mm := n + 4) H i hi hw rfl rfl Tryz.underlying78 Tryz.infT98 (by omega) (by omega)) ?_
      rintro _ w1 ⟨h1, H1, S1, hv⟩
      refine s_valW ev_assign ?_
      refine s_nilW ?_
      refine x_norm ?_
      refine c_retW ?_
      exact r_ret rfl rfl ⟨h1, H1, S1, hv⟩

theorem zNorm (H : Own K W0 w L) (i : Nat) (hi : L[i]? = some h) (hw : WH h) (z : Value) (n : Nat) (hz : Nv h z n) (hn : n ≤ 1000000) :
    Calls Tryz.prog 45 #[z] w fun e w' => ∃ u, e = .returned u ∧ ((∃ m, m ≤ n ∧ Nv h u m) ∧ w' = w) := by
  obtain ⟨p, c, rfl⟩ := hz.slice
  have hnc := hz.capLe
  refine bodyW (n := 21) (args := [.slice p n c]) Tryz.func45 rfl rfl rfl ?_
  refine c_seqW ?_
  refine c_regionW ?_
  refine s_valW ev_assign ?_
  refine s_nilW ?_
  refine x_norm ?_
  refine c_seqW ?_
  refine c_regionW ?_
  refine s_valW ev_move ?_
  refine s_valW (ev_len_slice rfl Tryz.underlying78) ?_
  refine s_valW ev_assign ?_
  refine s_nilW ?_
  refine x_norm ?_
  refine c_seqW ?_
  refine c_blockW ?_
  refine c_loopW (α := Nat) (fun j e w' => j ≤ n ∧ w' = w ∧ ∃ e0, e = upd (upd e0 0 (.slice p n c)) 3 (.int .i64 (j : Nat))) (fun j => j) n (by exact ⟨by omega, rfl, _, sl2 rfl rfl⟩) ?_
  rintro j e w1 ⟨hj, rfl, e, rfl⟩
  refine c_seqW ?_
  refine c_seqW ?_
  refine c_regionW ?_
  refine s_valW ev_move ?_
  by_cases hpos : (j : Int) > 0
  · refine s_valW (ev_gt_t rfl rfl hpos) ?_
    refine s_valW ev_move ?_
    refine s_valgW rfl rfl ev_move ?_
    refine s_valgW rfl rfl ev_move ?_
    have hk : (j : Int) - 1 = ((j - 1 : Nat) : Int) := by omega
    obtain ⟨b, u, rfl, hu, hcell⟩ := H.word hi hw hz (j := j - 1) (by omega)
    refine s_valgW rfl rfl (ev_subI rfl rfl) ?_
    refine s_valgW rfl rfl (ev_ix (i := j - 1) rfl (congrArg (Value.int .i64) hk) Tryz.underlying78 Tryz.szT98 (by omega)) ?_
    refine s_valgW rfl rfl (ev_load rfl Tryz.underlying98 rfl hcell) ?_
    refine s_valgW rfl rfl (ev_eq rfl rfl) ?_
    refine s_valW (ev_pick_t rfl) ?_
    refine s_nilW ?_
    refine x_norm ?_
    refine c_ifW rfl (fun hz0 => ?_) (fun hz0 => ?_)
    · refine c_skipW ?_
      refine x_norm ?_
      refine c_blockW ?_
      refine c_regionW ?_
      refine s_valW ev_move ?_
      refine s_valW (ev_subI rfl rfl) ?_
      refine s_valW ev_assign ?_
      refine s_nilW ?_
      refine x_normb ?_
      refine x_norm ?_
      exact ⟨j - 1, _, rfl, ⟨by omega, rfl, _, sl2 rfl (congrArg (Value.int .i64) hk)⟩, by omega⟩
    · refine c_exitW ?_
      refine x_exit ?_
      refine x_exit ?_
      refine x_exitb ?_
      refine x_norm ?_
      refine c_seqW ?_
      refine c_regionW ?_
      refine s_valW ev_move ?_
      refine s_valW ev_move ?_
      refine s_valW (ev_slice_0h rfl rfl rfl Tryz.underlying78 Tryz.szT98 (by omega)) ?_
      refine s_valW ev_assign ?_
      refine s_nilW ?_
      refine x_norm ?_
      refine c_retW ?_
      exact r_ret rfl rfl ⟨⟨j, hj, hz.cut (by omega)⟩, rfl⟩
  · refine s_valW (ev_gt_f rfl rfl hpos) ?_
    refine s_valW ev_move ?_
    refine s_skipW rfl rfl rfl ?_
    refine s_skipW rfl rfl rfl ?_
    refine s_skipW rfl rfl rfl ?_
    refine s_skipW rfl rfl rfl ?_
    refine s_skipW rfl rfl rfl ?_
    refine s_skipW rfl rfl rfl ?_
    refine s_valW (ev_pick_f rfl) ?_
    refine s_nilW ?_
    refine x_norm ?_
    refine c_falseW rfl ?_
    refine c_exitW ?_
    refine x_exit ?_
    refine x_exit ?_
    refine x_exitb ?_
    refine x_norm ?_
    refine c_seqW ?_
    refine c_regionW ?_
    refine s_valW ev_move ?_
    refine s_valW ev_move ?_
    refine s_valW (ev_slice_0h rfl rfl rfl Tryz.underlying78 Tryz.szT98 (by omega)) ?_
    refine s_valW ev_assign ?_
    refine s_nilW ?_
    refine x_norm ?_
    refine c_retW ?_
    exact r_ret rfl rfl ⟨⟨j, hj, hz.cut (by omega)⟩, rfl⟩

theorem zSetWord (H : Own K W0 w L) (i : Nat) (hi : L[i]? = some h) (hw : WH h) (z x : Value) (n : Nat) (hz : Nv h z n) (hx : Wd x) (hn : n ≤ 1000000) :
    Calls Tryz.prog 47 #[z, x] w fun e w' => ∃ u, e = .returned u ∧ ∃ h' m, m ≤ 1 ∧ Own K W0 w' (L.set i h') ∧ Nst h h' ∧ Nv h' u m := by
  obtain ⟨p, c, rfl⟩ := hz.slice
  obtain ⟨xv, hx0, rfl⟩ := hx
  refine bodyW (n := 15) (args := [.slice p n c, .int .u64 xv]) Tryz.func47 rfl rfl rfl ?_
  by_cases h0 : xv = 0
  · refine c_seqW ?_
    refine c_regionW ?_
    refine s_valW ev_assign ?_
    refine s_nilW ?_
    refine x_norm ?_
    refine c_seqW ?_
    refine c_seqW ?_
    refine c_regionW ?_
    refine s_valW ev_move ?_
    refine s_valW (ev_eq_t rfl rfl h0) ?_
    refine s_nilW ?_
    refine x_norm ?_
    refine c_trueW rfl ?_
    refine c_seqW ?_
    refine c_regionW ?_
    refine s_valW ev_move ?_
    refine s_valW (ev_slice_h (j := 0) rfl rfl Tryz.underlying78 Tryz.szT98 (by omega)) ?_
    refine s_valW ev_assign ?_
    refine s_nilW ?_
    refine x_norm ?_
    refine c_retW ?_
    refine x_ret ?_
    exact r_ret rfl rfl ⟨h, 0, by omega, by rw [set_self hi]; exact H, .refl hw, hz.cut (by omega)⟩
  · refine c_seqW ?_
    refine c_regionW ?_
    refine s_valW ev_assign ?_
    refine s_nilW ?_
    refine x_norm ?_
    refine c_seqW ?_
    refine c_seqW ?_
    refine c_regionW ?_
    refine s_valW ev_move ?_
    refine s_valW (ev_eq_f rfl rfl h0) ?_
    refine s_nilW ?_
    refine x_norm ?_
    refine c_falseW rfl ?_
    refine c_skipW ?_
    refine x_norm ?_
    refine c_seqW ?_
    refine c_regionW ?_
    refine s_valW ev_move ?_
    refine s_effW (d_call Tryz.call48 (zNatMake H i hi hw _ 1 n hz (by omega) (by omega) hn)) ?_
    rintro v w1 ⟨h1, H1, S1, hv⟩
    obtain ⟨p1, c1, rfl⟩ := hv.slice
    have hi1 := set_get hi h1
    obtain ⟨b, _, rfl, _, _⟩ := H1.word hi1 S1.wh hv (j := 0) (by omega)
    refine s_valW ev_assign ?_
    refine s_nilW ?_
    refine x_norm ?_
    refine c_seqW ?_
    refine c_regionW ?_
    refine s_valW ev_move ?_
    refine s_valW ev_move ?_
    refine s_valW (ev_ix (i := 0) rfl rfl Tryz.underlying78 Tryz.szT98 (by omega)) ?_
    refine s_eff0W (d_storeW (v := .int .u64 xv) H1 i hi1 S1.wh hv (j := 0) (by omega) rfl rfl Tryz.szT98 ⟨xv, hx0, rfl⟩) ?_
    rintro _ w2 ⟨h2, H2, S2⟩
    rw [List.set_set] at H2
    refine s_nilW ?_
    refine x_norm ?_
    refine c_seqW ?_
    refine c_regionW ?_
    refine s_valW ev_move ?_
    refine s_valW ev_assign ?_
    refine s_nilW ?_
    refine x_norm ?_
    refine c_retW ?_
    exact r_ret rfl rfl ⟨h2, 1, by omega, H2, S1.trans S2, hv.st S2⟩

theorem zMulAddWW (H : Own K W0 w L) (i : Nat) (hi : L[i]? = some h) (hw : WH h) (z x y r : Value) (n m : Nat) (hz : Nv h z n) (hx : Nv h x m) (hy : Wd y) (hr : Wd r) (hn : n ≤ 1000000) (hm : m ≤ 900000) :
    Calls Tryz.prog 42 #[z, x, y, r] w fun e w' => ∃ u, e = .returned u ∧ ∃ h' k, k ≤ m + 1 ∧ Own K W0 w' (L.set i h') ∧ Nst h h' ∧ Nv h' u k := by
  obtain ⟨q, cq, rfl⟩ := hx.slice
  obtain ⟨yv, hy0, rfl⟩ := hy
  refine bodyW (n := 37) (args := [z, .slice q m cq, .int .u64 yv, r]) Tryz.func42 rfl rfl rfl ?_
  by_cases hm0 : (m : Int) = 0
  · refine c_seqW ?_
    refine c_regionW ?_
    refine s_valW ev_assign ?_
    refine s_nilW ?_
    refine x_norm ?_
    refine c_seqW ?_
    refine c_regionW ?_
    refine s_valW ev_move ?_
    refine s_valW (ev_len_slice rfl Tryz.underlying78) ?_
    refine s_valW ev_assign ?_
    refine s_nilW ?_
    refine x_norm ?_
    refine c_seqW ?_
    refine c_seqW ?_
    refine c_regionW ?_
    refine s_valW ev_move ?_
    refine s_valW (ev_eq_t rfl rfl hm0) ?_
    refine s_valW ev_move ?_
    refine s_skipW rfl rfl rfl ?_
    refine s_skipW rfl rfl rfl ?_
    refine s_valW (ev_pick_t rfl) ?_
    refine s_nilW ?_
    refine x_norm ?_
    refine c_trueW rfl ?_
    refine c_seqW ?_
    refine c_regionW ?_
    refine s_valW ev_move ?_
    refine s_valW ev_move ?_
    refine s_effW (d_call Tryz.call47 (zSetWord H i hi hw _ _ n hz hr hn)) ?_
    rintro v w1 ⟨h1, k, hk, H1, S1, hv⟩
    refine s_valW ev_assign ?_
    refine s_nilW ?_
    refine x_norm ?_
    refine c_retW ?_
    refine x_ret ?_
    exact r_ret rfl rfl ⟨h1, k, by omega, H1, S1, hv⟩
  · by_cases hy1 : yv = 0
    · refine c_seqW ?_
      refine c_regionW ?_
      refine s_valW ev_assign ?_
      refine s_nilW ?_
      refine x_norm ?_
      refine c_seqW ?_
      refine c_regionW ?_
      refine s_valW ev_move ?_
      refine s_valW (ev_len_slice rfl Tryz.underlying78) ?_
      refine s_valW ev_assign ?_
      refine s_nilW ?_
      refine x_norm ?_
      refine c_seqW ?_
      refine c_seqW ?_
      refine c_regionW ?_
      refine s_valW ev_move ?_
      refine s_valW (ev_eq_f rfl rfl hm0) ?_
      refine s_valW ev_move ?_
      refine s_valgW rfl rfl ev_move ?_
      refine s_valgW rfl rfl (ev_eq_t rfl rfl hy1) ?_
      refine s_valW (ev_pick_f rfl) ?_
      refine s_nilW ?_
      refine x_norm ?_
      refine c_trueW rfl ?_
      refine c_seqW ?_
      refine c_regionW ?_
      refine s_valW ev_move ?_
      refine s_valW ev_move ?_
      refine s_effW (d_call Tryz.call47 (zSetWord H i hi hw _ _ n hz hr hn)) ?_
      rintro v w1 ⟨h1, k, hk, H1, S1, hv⟩
      refine s_valW ev_assign ?_
      refine s_nilW ?_
      refine x_norm ?_
      refine c_retW ?_
      refine x_ret ?_
      exact r_ret rfl rfl ⟨h1, k, by omega, H1, S1, hv⟩
    · refine c_seqW ?_
      refine c_regionW ?_
      refine s_valW ev_assign ?_
      refine s_nilW ?_
      refine x_norm ?_
      refine c_seqW ?_
      refine c_regionW ?_
      refine s_valW ev_move ?_
      refine s_valW (ev_len_slice rfl Tryz.underlying78) ?_
      refine s_valW ev_assign ?_
      refine s_nilW ?_
      refine x_norm ?_
      refine c_seqW ?_
      refine c_seqW ?_
      refine c_regionW ?_
      refine s_valW ev_move ?_
      refine s_valW (ev_eq_f rfl rfl hm0) ?_
      refine s_valW ev_move ?_
      refine s_valgW rfl rfl ev_move ?_
      refine s_valgW rfl rfl (ev_eq_f rfl rfl hy1) ?_
      refine s_valW (ev_pick_f rfl) ?_
      refine s_nilW ?_
      refine x_norm ?_
      refine c_falseW rfl ?_
      refine c_skipW ?_
      refine x_norm ?_
      refine c_seqW ?_
      refine c_regionW ?_
      refine s_valW ev_move ?_
      refine s_valW ev_move ?_
      refine s_valW ((by simpa using ev_addI (i := (m : Nat)) (j := 1) rfl rfl : Ev Tryz.prog _ _ _ _ (.int .i64 ((m + 1 : Nat) : Int)))) ?_
      refine s_effW (d_call Tryz.call48 (zNatMake H i hi hw _ (m + 1) n hz (by omega) (by omega) hn)) ?_
      rintro v w1 ⟨h1, H1, S1, hv⟩
      obtain ⟨p1, c1, rfl⟩ := hv.slice
      have hi1 := set_get hi h1
      have hc1 := hv.capLe
      refine s_valW ev_assign ?_
      refine s_nilW ?_
      refine x_norm ?_
      refine c_seqW ?_
      refine c_regionW ?_
      refine s_valW ev_move ?_
      refine s_valW ev_move ?_
      refine s_valW ev_move ?_
      refine s_valW ev_move ?_
      refine s_valW (ev_slice_0h rfl rfl rfl Tryz.underlying78 Tryz.szT98 (by omega)) ?_
      refine s_valW ev_move ?_
      refine s_valW ev_move ?_
      refine s_valW ev_move ?_
      refine s_effW (d_call Tryz.call49 (zMulAddVWW H1 i hi1 S1.wh _ _ _ _ m (hv.cut (by omega)) (hx.st S1) ⟨yv, hy0, rfl⟩ hr (by omega))) ?_
      rintro cv w2 ⟨hcv, h2, H2, S2⟩
      rw [List.set_set] at H2
      have hi2 := set_get hi h2
      have hv2 := hv.st S2
      obtain ⟨b, _, rfl, _, _⟩ := H2.word hi2 S2.wh hv2 (j := m) (by omega)
      refine s_valW (ev_ix rfl rfl Tryz.underlying78 Tryz.szT98 (by omega)) ?_
      refine s_eff0W (d_storeW (v := cv) H2 i hi2 S2.wh hv2 (j := m) (by omega) rfl rfl Tryz.szT98 hcv) ?_
      rintro _ w3 ⟨h3, H3, S3⟩
      rw [List.set_set] at H3
      have hi3 := set_get hi h3
      refine s_nilW ?_
      refine x_norm ?_
      refine c_seqW ?_
      refine c_regionW ?_
      refine s_valW ev_move ?_
      refine s_effW (d_call Tryz.call45 (zNorm H3 i hi3 S3.wh _ (m + 1) (hv2.st S3) (by omega))) ?_
      rintro v w4 ⟨⟨k, hk, hv4⟩, rfl⟩
      refine s_valW ev_assign ?_
      refine s_nilW ?_
      refine x_norm ?_
      refine c_retW ?_
      exact r_ret rfl rfl ⟨h3, k, hk, H3, (S1.trans S2).trans S3, hv4⟩
end
end Go.Proofs.YtgikfcmcgpcckaaGreatDoor
