/- Walks through functions of the program: each call comes to what its theorem says. A part of the proofs of FnExactDegree and FnExactCoefficient. -/
import Derived.Test.YtgikfcmcgpcckaaGreatDoorBg2
namespace Go.Proofs.YtgikfcmcgpcckaaGreatDoor
open Go Go.RowKit Sl

theorem zPow (x : Value) (n : Nat) (w : World) (hx : Wd x) (hn : n ≤ 1000000) : Calls Tryz.prog 43 #[x, .int .i64 (n : Nat)] w fun e w' => ∃ u, e = .returned u ∧ (Wd u ∧ w' = w) := by
  obtain ⟨xv, hx0, rfl⟩ := hx
  refine bodyW (n := 18) (args := [.int .u64 xv, .int .i64 (n : Nat)]) Tryz.func43 rfl rfl rfl ?_
  refine c_seqW ?_
  refine c_regionW ?_
  refine s_valW ev_assign ?_
  refine s_nilW ?_
  refine x_norm ?_
  refine c_seqW ?_
  refine c_regionW ?_
  refine s_valW ev_assign ?_
  refine s_nilW ?_
  refine x_norm ?_
  refine c_seqW ?_
  refine c_blockW ?_
  refine c_loopW (α := Nat) (fun j e w' => j ≤ n ∧ w' = w ∧ ∃ (a b : Int) (e0 : Env), 0 ≤ b ∧ e = upd (upd (upd e0 0 (.int .u64 a)) 1 (.int .i64 (j : Nat))) 4 (.int .u64 b)) (fun j => j) n (by exact ⟨by omega, rfl, xv, 1, _, by omega, sl3 rfl rfl rfl⟩) ?_
  rintro j e w1 ⟨hj, rfl, a, b, e, hb, rfl⟩
  refine c_seqW ?_
  refine c_seqW ?_
  refine c_regionW ?_
  refine s_valW ev_move ?_
  refine s_valW (ev_gt rfl rfl) ?_
  refine s_nilW ?_
  refine x_norm ?_
  refine c_ifW rfl (fun hpos => ?_) (fun hpos => ?_)
  · refine c_skipW ?_
    refine x_norm ?_
    refine c_blockW ?_
    refine c_seqW ?_
    refine c_seqW ?_
    refine c_regionW ?_
    refine s_valW ev_move ?_
    refine s_valW (ev_and rfl rfl) ?_
    refine s_valW (ev_ne rfl rfl) ?_
    refine s_nilW ?_
    refine x_norm ?_
    refine c_ifW rfl (fun hodd => ?_) (fun hodd => ?_)
    · refine c_regionW ?_
      refine s_valW ev_move ?_
      refine s_valW ev_move ?_
      refine s_valW (ev_mul rfl rfl) ?_
      refine s_valW ev_assign ?_
      refine s_nilW ?_
      refine x_norm ?_
      refine c_seqW ?_
      refine c_regionW ?_
      refine s_valW ev_move ?_
      refine s_valW ev_move ?_
      refine s_valW (ev_mul rfl rfl) ?_
      refine s_valW ev_assign ?_
      refine s_nilW ?_
      refine x_norm ?_
      refine c_regionW ?_
      refine s_valW ev_move ?_
      refine s_valW (ev_shr1 rfl rfl) ?_
      refine s_valW ev_assign ?_
      refine s_nilW ?_
      refine x_normb ?_
      refine x_norm ?_
      first
        | exact ⟨j / 2, _, rfl, ⟨by omega, rfl, _, _, _, wrapU_nn _, sl3 rfl rfl rfl⟩, by omega⟩
        | exact ⟨j / 2, _, rfl, ⟨by omega, rfl, _, _, _, hb, sl3 rfl rfl rfl⟩, by omega⟩
    · refine c_skipW ?_
      refine x_norm ?_
      refine c_seqW ?_
      refine c_regionW ?_
      refine s_valW ev_move ?_
      refine s_valW ev_move ?_
      refine s_valW (ev_mul rfl rfl) ?_
      refine s_valW ev_assign ?_
      refine s_nilW ?_
      refine x_norm ?_
      refine c_regionW ?_
      refine s_valW ev_move ?_
      refine s_valW (ev_shr1 rfl rfl) ?_
      refine s_valW ev_assign ?_
      refine s_nilW ?_
      refine x_normb ?_
      refine x_norm ?_
      first
        | exact ⟨j / 2, _, rfl, ⟨by omega, rfl, _, _, _, wrapU_nn _, sl3 rfl rfl rfl⟩, by omega⟩
        | exact ⟨j / 2, _, rfl, ⟨by omega, rfl, _, _, _, hb, sl3 rfl rfl rfl⟩, by omega⟩
  · refine c_exitW ?_
    refine x_exit ?_
    refine x_exit ?_
    refine x_exitb ?_
    refine x_norm ?_
    refine c_retW ?_
    exact r_ret rfl rfl ⟨⟨b, hb, rfl⟩, rfl⟩

theorem zMaxPow (w : World) : Calls Tryz.prog 41 #[.int .u64 10] w fun e w' => ∃ u, e = .returned u ∧ (u = .tuple #[.int .u64 10000000000000000000, .int .i64 19] ∧ w' = w) := by
  refine bodyW (n := 16) (args := [.int .u64 10]) Tryz.func41 rfl rfl rfl ?_
  refine c_seqW ?_
  refine c_regionW ?_
  refine s_valW ev_assign ?_
  refine s_valW ev_assign ?_
  refine s_nilW ?_
  refine x_norm ?_
  refine c_seqW ?_
  refine c_regionW ?_
  refine s_valW ev_move ?_
  refine s_valW ev_assign ?_
  refine s_valW ev_assign ?_
  refine s_nilW ?_
  refine x_norm ?_
  refine c_seqW ?_
  refine c_seqW ?_
  refine c_regionW ?_
  refine s_valW ev_move ?_
  refine s_valW ((ev_quo (i := 18446744073709551615) (j := 10) rfl rfl (by decide) : Ev Tryz.prog _ _ _ _ (.int .u64 ((1844674407370955161 : Nat) : Int)))) ?_
  refine s_valW ev_assign ?_
  refine s_nilW ?_
  refine x_norm ?_
  refine c_blockW ?_
  refine c_loopW (α := Nat) (fun j e w' => j ≤ 18 ∧ w' = w ∧ ∃ (e0 : Env), e = upd (upd (upd (upd e0 0 (.int .u64 10)) 2 (.int .u64 ((10 ^ (j + 1) : Nat) : Int))) 3 (.int .i64 ((j + 1 : Nat) : Int))) 4 (.int .u64 ((1844674407370955161 : Nat) : Int))) (fun j => 18 - j) 0 (by exact ⟨by omega, rfl, _, sl4 rfl rfl rfl rfl⟩) ?_
  rintro j e w1 ⟨hj, rfl, e, rfl⟩
  refine c_seqW ?_
  refine c_seqW ?_
  refine c_regionW ?_
  refine s_valW ev_move ?_
  refine s_valW ev_move ?_
  refine s_valW (ev_le rfl rfl) ?_
  refine s_nilW ?_
  refine x_norm ?_
  refine c_ifW rfl (fun hle => ?_) (fun hle => ?_)
  · refine c_skipW ?_
    refine x_norm ?_
    refine c_blockW ?_
    refine c_seqW ?_
    refine c_regionW ?_
    have hj18 : j + 1 < 19 := by
      have h1 : 10 ^ (j + 1) < 10 ^ 19 := by
        have : (10 : Nat) ^ 19 = 10000000000000000000 := rfl
        omega
      exact (Nat.pow_lt_pow_iff_right (by omega)).1 h1
    have hb : 10 ^ (j + 1) * 10 < 18446744073709551616 := by omega
    refine s_valW ev_move ?_
    refine s_valW ev_move ?_
    refine s_valW ((by simpa [Nat.pow_succ] using ev_mulU (i := 10 ^ (j + 1)) (j := 10) rfl rfl hb : Ev Tryz.prog _ _ _ _ (.int .u64 ((10 ^ (j + 1 + 1) : Nat) : Int)))) ?_
    refine s_valW ev_assign ?_
    refine s_nilW ?_
    refine x_norm ?_
    refine c_regionW ?_
    refine s_valW ev_move ?_
    refine s_valW ((by simpa using ev_addI (i := ((j + 1 : Nat) : Int)) (j := 1) rfl rfl : Ev Tryz.prog _ _ _ _ (.int .i64 ((j + 1 + 1 : Nat) : Int)))) ?_
    refine s_valW ev_assign ?_
    refine s_nilW ?_
    refine x_normb ?_
    refine x_norm ?_
    exact ⟨j + 1, _, rfl, ⟨by omega, rfl, _, sl4 rfl rfl rfl rfl⟩, by omega⟩
  · refine c_exitW ?_
    refine x_exit ?_
    refine x_exit ?_
    refine x_exitb ?_
    refine x_norm ?_
    refine c_retW ?_
    refine r_ret2 rfl rfl rfl ⟨?_, rfl⟩
    have : j = 18 := by
      refine Nat.le_antisymm hj (Nat.le_of_not_lt fun hlt => hle ?_)
      have h1 : 10 ^ (j + 1) ≤ 10 ^ 18 := Nat.pow_le_pow_right (by omega) (by omega)
      have : (10 : Nat) ^ 18 = 1000000000000000000 := rfl
      omega
    subst this
    rfl

section
variable {K : Nat → Prop} {W0 w : World} {L : List Hl} {i : Nat} {h : Hl}

theorem zReverse (H : Own K W0 w L) (i : Nat) (hi : L[i]? = some h) (hw : WH h) (z : Value) (n : Nat) (hz : Nv h z n) (hn : n ≤ 1000000) :
    Calls Tryz.prog 44 #[z] w fun e w' => ∃ u, e = .returned u ∧ ∃ h', Own K W0 w' (L.set i h') ∧ Nst h h' := by
  obtain ⟨p, c, rfl⟩ := hz.slice
  refine bodyW (n := 28) (args := [.slice p n c]) Tryz.func44 rfl rfl rfl ?_
  refine c_seqW ?_
  refine c_regionW ?_
  refine s_valW ev_move ?_
  refine s_valW (ev_len_slice rfl Tryz.underlying78) ?_
  refine s_valW (ev_subI rfl rfl) ?_
  refine s_valW ev_assign ?_
  refine s_valW ev_assign ?_
  refine s_nilW ?_
  refine x_norm ?_
  refine c_blockW ?_
  refine c_loopW (α := Nat) (fun j e w' => j ≤ n ∧ ∃ h', Own K W0 w' (L.set i h') ∧ Nst h h' ∧ ∃ (e0 : Env), e = upd (upd (upd e0 0 (.slice p n c)) 2 (.int .i64 (j : Nat))) 3 (.int .i64 ((n : Int) - 1 - (j : Nat)))) (fun j => n - j) 0 (by exact ⟨by omega, h, by rw [set_self hi]; exact H, .refl hw, _, sl3 rfl rfl (by show Value.int .i64 ((n : Int) - 1) = Value.int .i64 ((n : Int) - 1 - ((0 : Nat) : Int)); congr 1; omega)⟩) ?_
  rintro j e w1 ⟨hj, h1, H1, S1, e, rfl⟩
  have hi1 := set_get hi h1
  refine c_seqW ?_
  refine c_seqW ?_
  refine c_regionW ?_
  refine s_valW ev_move ?_
  refine s_valW ev_move ?_
  refine s_valW (ev_lt rfl rfl) ?_
  refine s_nilW ?_
  refine x_norm ?_
  refine c_ifW rfl (fun hlt => ?_) (fun hlt => ?_)
  · refine c_skipW ?_
    refine x_norm ?_
    refine c_seqW ?_
    refine c_blockW ?_
    refine b_beginW (by kernel_rfl) (Hold w1) 13 ?_
    have hS : (Hold w1) (World.drew w1) := hold_drew
    have hk : (n : Int) - 1 - (j : Nat) = ((n - 1 - j : Nat) : Int) := by omega
    obtain ⟨b, u, rfl, hu, hcell⟩ := H1.word hi1 S1.wh (hz.st S1) (j := n - 1 - j) (by omega)
    obtain ⟨b', u2, hbb, hu2, hcell2⟩ := H1.word hi1 S1.wh (hz.st S1) (j := j) (by omega)
    cases hbb
    refine b_takeW (calm_blk (calm_then (calm_then (calm_blk calm_body)))) hS 0 rfl (by kernel_rfl) (fun _ hS => ev_move) ?_
    refine b_takeW (calm_blk (calm_then (calm_then (calm_blk calm_body)))) hS 1 rfl (by kernel_rfl) (fun _ hS => ev_move) ?_
    refine b_stillW (calm_blk (calm_then (calm_then (calm_blk calm_body)))) hS 2 rfl (by kernel_rfl) (fun _ => ev_move) ?_
    refine b_stillW (calm_blk (calm_then (calm_then (calm_blk calm_body)))) hS 3 rfl (by kernel_rfl) (fun _ => ev_move) ?_
    refine b_takeW (calm_blk (calm_then (calm_then (calm_blk calm_body)))) hS 4 rfl (by kernel_rfl) (fun _ hS => ev_move) ?_
    refine b_takeW (calm_blk (calm_then (calm_then (calm_blk calm_body)))) hS 5 rfl (by kernel_rfl) (fun _ hS => ev_move) ?_
    refine b_takeW (calm_blk (calm_then (calm_then (calm_blk calm_body)))) hS 6 rfl (by kernel_rfl) (fun _ hS => ev_ix (i := n - 1 - j) rfl (congrArg (Value.int .i64) hk) Tryz.underlying78 Tryz.szT98 (by omega)) ?_
    refine b_takeW (calm_blk (calm_then (calm_then (calm_blk calm_body)))) hS 7 rfl (by kernel_rfl) (fun _ hS => ev_load rfl Tryz.underlying98 rfl (hS.cell hcell)) ?_
    refine b_stillW (calm_blk (calm_then (calm_then (calm_blk calm_body)))) hS 8 rfl (by kernel_rfl) (fun _ => ev_move) ?_
    refine b_stillW (calm_blk (calm_then (calm_then (calm_blk calm_body)))) hS 9 rfl (by kernel_rfl) (fun _ => ev_move) ?_
    refine b_stillW (calm_blk (calm_then (calm_then (calm_blk calm_body)))) hS 10 rfl (by kernel_rfl) (fun _ => ev_ix rfl rfl Tryz.underlying78 Tryz.szT98 (by omega)) ?_
    refine b_takeW (calm_blk (calm_then (calm_then (calm_blk calm_body)))) hS 11 rfl (by kernel_rfl) (fun _ hS => ev_load rfl Tryz.underlying98 rfl (hS.cell hcell2)) ?_
    refine b_takeW (calm_blk (calm_then (calm_then (calm_blk calm_body)))) hS 12 rfl (by kernel_rfl) (fun _ hS => ev_ix rfl rfl Tryz.underlying78 Tryz.szT98 (by omega)) ?_
    refine b_barW rfl (by kernel_rfl) (d_storeW (v := .int .u64 u) H1.drew i hi1 S1.wh (hz.st S1) (j := j) (by omega) rfl rfl Tryz.szT98 ⟨u, hu, rfl⟩) ?_
    rintro _ w2 ⟨h2, H2, S2⟩
    rw [List.set_set] at H2
    have hi2 := set_get hi h2
    refine b_againW (Hold w2) 15 ?_
    have hS : (Hold w2) w2 := hold_refl
    refine b_takeW (calm_blk (calm_then (calm_then (calm_blk calm_body)))) hS 14 rfl (by kernel_rfl) (fun _ hS => ev_ix (i := n - 1 - j) rfl (congrArg (Value.int .i64) hk) Tryz.underlying78 Tryz.szT98 (by omega)) ?_
    refine b_barW rfl (by kernel_rfl) (d_storeW (v := .int .u64 u2) H2 i hi2 S2.wh ((hz.st S1).st S2) (j := n - 1 - j) (by omega) rfl rfl Tryz.szT98 ⟨u2, hu2, rfl⟩) ?_
    rintro _ w3 ⟨h3, H3, S3⟩
    rw [List.set_set] at H3
    refine b_endW (by kernel_rfl) ?_
    refine x_normb ?_
    refine x_norm ?_
    refine c_regionW ?_
    refine s_valW ev_move ?_
    refine s_valW (ev_addI rfl rfl) ?_
    refine s_valW ev_move ?_
    refine s_valW (ev_subI rfl rfl) ?_
    refine s_valW ev_assign ?_
    refine s_valW ev_assign ?_
    refine s_nilW ?_
    refine x_norm ?_
    exact ⟨j + 1, _, rfl, ⟨by omega, h3, H3, (S1.trans S2).trans S3, _, sl3 rfl rfl (by show Value.int .i64 ((n : Int) - 1 - (j : Nat) - 1) = Value.int .i64 ((n : Int) - 1 - ((j + 1 : Nat) : Int)); congr 1; omega)⟩, by omega⟩
  · refine c_exitW ?_
    refine x_exit ?_
    refine x_exit ?_
    refine x_exitb ?_
    exact r_fin rfl ⟨h1, H1, S1⟩

theorem zRshVUg (H : Own K W0 w L) (i : Nat) (hi : L[i]? = some h) (hw : WH h) (z x : Value) (n s : Nat) (hz : Nv h z n) (hx : Nv h x n) (hn : n ≤ 1000000) (hs : 0 < s) (hs2 : s < 64) :
    Calls Tryz.prog 55 #[z, x, .int .u64 (s : Nat)] w fun e w' => ∃ u, e = .returned u ∧ ∃ h', Own K W0 w' (L.set i h') ∧ Nst h h' := by
  obtain ⟨p, cp, rfl⟩ := hz.slice
  obtain ⟨q, cq, rfl⟩ := hx.slice
  refine bodyW (n := 71) (args := [.slice p n cp, .slice q n cq, .int .u64 (s : Nat)]) Tryz.func55 rfl rfl rfl ?_
  by_cases hn0 : (n : Int) = 0
  · refine c_seqW ?_
    refine c_regionW ?_
    refine s_valW ev_assign ?_
    refine s_nilW ?_
    refine x_norm ?_
    refine c_seqW ?_
    refine c_seqW ?_
    refine c_regionW ?_
    refine s_valW ev_move ?_
    refine s_valW (ev_len_slice rfl Tryz.underlying77) ?_
    refine s_valW ev_move ?_
    refine s_valW (ev_len_slice rfl Tryz.underlying77) ?_
    refine s_valW (ev_ne_f rfl rfl rfl) ?_
    refine s_nilW ?_
    refine x_norm ?_
    refine c_falseW rfl ?_
    refine c_skipW ?_
    refine x_norm ?_
    refine c_seqW ?_
    refine c_seqW ?_
    refine c_regionW ?_
    refine s_valW ev_move ?_
    refine s_valW (ev_eq_f rfl rfl (by omega)) ?_
    refine s_nilW ?_
    refine x_norm ?_
    refine c_falseW rfl ?_
    refine c_skipW ?_
    refine x_norm ?_
    refine c_seqW ?_
    refine c_seqW ?_
    refine c_regionW ?_
    refine s_valW ev_move ?_
    refine s_valW (ev_len_slice rfl Tryz.underlying77) ?_
    refine s_valW (ev_eq_t rfl rfl hn0) ?_
    refine s_nilW ?_
    refine x_norm ?_
    refine c_trueW rfl ?_
    refine c_retW ?_
    refine x_ret ?_
    exact r_ret rfl rfl ⟨h, by rw [set_self hi]; exact H, .refl hw⟩
  · refine c_seqW ?_
    refine c_regionW ?_
    refine s_valW ev_assign ?_
    refine s_nilW ?_
    refine x_norm ?_
    refine c_seqW ?_
    refine c_seqW ?_
    refine c_regionW ?_
    refine s_valW ev_move ?_
    refine s_valW (ev_len_slice rfl Tryz.underlying77) ?_
    refine s_valW ev_move ?_
    refine s_valW (ev_len_slice rfl Tryz.underlying77) ?_
    refine s_valW (ev_ne_f rfl rfl rfl) ?_
    refine s_nilW ?_
    refine x_norm ?_
    refine c_falseW rfl ?_
    refine c_skipW ?_
    refine x_norm ?_
    refine c_seqW ?_
    refine c_seqW ?_
    refine c_regionW ?_
    refine s_valW ev_move ?_
    refine s_valW (ev_eq_f rfl rfl (by omega)) ?_
    refine s_nilW ?_
    refine x_norm ?_
    refine c_falseW rfl ?_
    refine c_skipW ?_
    refine x_norm ?_
    refine c_seqW ?_
    refine c_seqW ?_
    refine c_regionW ?_
    refine s_valW ev_move ?_
    refine s_valW (ev_len_slice rfl Tryz.underlying77) ?_
    refine s_valW (ev_eq_f rfl rfl hn0) ?_
    refine s_nilW ?_
    refine x_norm ?_
    refine c_falseW rfl ?_
    refine c_skipW ?_
    refine x_norm ?_
    refine c_seqW ?_
    refine c_regionW ?_
    refine s_valW ev_move ?_
    refine s_valW (ev_and rfl rfl) ?_
    refine s_valW ev_assign ?_
    refine s_nilW ?_
    refine x_norm ?_
    refine c_seqW ?_
    refine c_regionW ?_
    refine s_valW ev_move ?_
    refine s_valW (ev_sub rfl rfl) ?_
    refine s_valW ev_assign ?_
    refine s_nilW ?_
    refine x_norm ?_
    refine c_seqW ?_
    refine c_regionW ?_
    refine s_valW ev_move ?_
    refine s_valW (ev_and rfl rfl) ?_
    refine s_valW ev_assign ?_
    refine s_nilW ?_
    refine x_norm ?_
    refine c_seqW ?_
    refine c_regionW ?_
    refine s_valW ev_move ?_
    obtain ⟨bq, u0, rfl, hu0, hcell0⟩ := H.word hi hw hx (j := 0) (by omega)
    obtain ⟨bp, _, rfl, _, _⟩ := H.word hi hw hz (j := 0) (by omega)
    refine s_valW (ev_ix (i := 0) rfl rfl Tryz.underlying77 Tryz.szT98 (by omega)) ?_
    refine s_valW (ev_load rfl Tryz.underlying98 rfl hcell0) ?_
    refine s_valW ev_move ?_
    refine s_valW (ev_shl rfl rfl (bits2_and_nn _ _)) ?_
    refine s_valW ev_assign ?_
    refine s_nilW ?_
    refine x_norm ?_
    refine c_seqW ?_
    refine c_seqW ?_
    refine c_regionW ?_
    refine s_valW ev_assign ?_
    refine s_nilW ?_
    refine x_norm ?_
    refine c_blockW ?_
    refine c_loopW (α := Nat) (fun j e w' => j + 1 ≤ n ∧ ∃ h', Own K W0 w' (L.set i h') ∧ Nst h h' ∧ ∃ (a b : Int) (c : Value) (e0 : Env), 0 ≤ a ∧ 0 ≤ b ∧ e = upd (upd (upd (upd (upd (upd e0 0 (.slice (some ⟨bp, 0, none⟩) n cp)) 1 (.slice (some ⟨bq, 0, none⟩) n cq)) 2 (.int .u64 a)) 6 c) 7 (.int .u64 b)) 8 (.int .i64 ((j + 1 : Nat) : Int))) (fun j => n - j) 0 (by exact ⟨by omega, h, by rw [set_self hi]; exact H, .refl hw, _, _, _, _, bits2_and_nn _ _, bits2_and_nn _ _, sl6 rfl rfl rfl rfl rfl rfl⟩) ?_
    rintro j e w1 ⟨hj, h1, H1, S1, a, b, c, e, ha, hb, rfl⟩
    have hi1 := set_get hi h1
    refine c_seqW ?_
    refine c_seqW ?_
    refine c_regionW ?_
    refine s_valW ev_move ?_
    refine s_valW ev_move ?_
    refine s_valW (ev_len_slice rfl Tryz.underlying77) ?_
    refine s_valW (ev_lt rfl rfl) ?_
    refine s_nilW ?_
    refine x_norm ?_
    refine c_ifW rfl (fun hlt => ?_) (fun hlt => ?_)
    · refine c_skipW ?_
      refine x_norm ?_
      refine c_seqW ?_
      refine c_blockW ?_
      refine b_beginW (by kernel_rfl) (Hold w1) 18 ?_
      have hS : (Hold w1) (World.drew w1) := hold_drew
      have hk : ((j + 1 : Nat) : Int) - 1 = (j : Nat) := by omega
      obtain ⟨_, u, hbq, hu, hcell⟩ := H1.word hi1 S1.wh (hx.st S1) (j := j) (by omega)
      cases hbq
      obtain ⟨_, u2, hbq, hu2, hcell2⟩ := H1.word hi1 S1.wh (hx.st S1) (j := j + 1) (by omega)
      cases hbq
      refine b_takeW (calm_blk (calm_then (calm_then (calm_blk (calm_then calm_body))))) hS 0 rfl (by kernel_rfl) (fun _ hS => ev_move) ?_
      refine b_takeW (calm_blk (calm_then (calm_then (calm_blk (calm_then calm_body))))) hS 1 rfl (by kernel_rfl) (fun _ hS => ev_move) ?_
      refine b_takeW (calm_blk (calm_then (calm_then (calm_blk (calm_then calm_body))))) hS 2 rfl (by kernel_rfl) (fun _ hS => ev_subI rfl rfl) ?_
      refine b_takeW (calm_blk (calm_then (calm_then (calm_blk (calm_then calm_body))))) hS 3 rfl (by kernel_rfl) (fun _ hS => ev_move) ?_
      refine b_takeW (calm_blk (calm_then (calm_then (calm_blk (calm_then calm_body))))) hS 4 rfl (by kernel_rfl) (fun _ hS => ev_move) ?_
      refine b_takeW (calm_blk (calm_then (calm_then (calm_blk (calm_then calm_body))))) hS 5 rfl (by kernel_rfl) (fun _ hS => ev_subI rfl rfl) ?_
      refine b_takeW (calm_blk (calm_then (calm_then (calm_blk (calm_then calm_body))))) hS 6 rfl (by kernel_rfl) (fun _ hS => ev_ix (i := j) rfl (congrArg (Value.int .i64) hk) Tryz.underlying77 Tryz.szT98 (by omega)) ?_
      refine b_takeW (calm_blk (calm_then (calm_then (calm_blk (calm_then calm_body))))) hS 7 rfl (by kernel_rfl) (fun _ hS => ev_load rfl Tryz.underlying98 rfl (hS.cell hcell)) ?_
      refine b_takeW (calm_blk (calm_then (calm_then (calm_blk (calm_then calm_body))))) hS 8 rfl (by kernel_rfl) (fun _ hS => ev_move) ?_
      refine b_takeW (calm_blk (calm_then (calm_then (calm_blk (calm_then calm_body))))) hS 9 rfl (by kernel_rfl) (fun _ hS => ev_shr rfl rfl ha) ?_
      refine b_takeW (calm_blk (calm_then (calm_then (calm_blk (calm_then calm_body))))) hS 10 rfl (by kernel_rfl) (fun _ hS => ev_move) ?_
      refine b_takeW (calm_blk (calm_then (calm_then (calm_blk (calm_then calm_body))))) hS 11 rfl (by kernel_rfl) (fun _ hS => ev_move) ?_
      refine b_takeW (calm_blk (calm_then (calm_then (calm_blk (calm_then calm_body))))) hS 12 rfl (by kernel_rfl) (fun _ hS => ev_ix (i := j + 1) rfl rfl Tryz.underlying77 Tryz.szT98 (by omega)) ?_
      refine b_takeW (calm_blk (calm_then (calm_then (calm_blk (calm_then calm_body))))) hS 13 rfl (by kernel_rfl) (fun _ hS => ev_load rfl Tryz.underlying98 rfl (hS.cell hcell2)) ?_
      refine b_takeW (calm_blk (calm_then (calm_then (calm_blk (calm_then calm_body))))) hS 14 rfl (by kernel_rfl) (fun _ hS => ev_move) ?_
      refine b_takeW (calm_blk (calm_then (calm_then (calm_blk (calm_then calm_body))))) hS 15 rfl (by kernel_rfl) (fun _ hS => ev_shl rfl rfl hb) ?_
      refine b_takeW (calm_blk (calm_then (calm_then (calm_blk (calm_then calm_body))))) hS 16 rfl (by kernel_rfl) (fun _ hS => ev_or rfl rfl) ?_
      refine b_takeW (calm_blk (calm_then (calm_then (calm_blk (calm_then calm_body))))) hS 17 rfl (by kernel_rfl) (fun _ hS => ev_ix (i := j) rfl (congrArg (Value.int .i64) hk) Tryz.underlying77 Tryz.szT98 (by omega)) ?_
      refine b_barW rfl (by kernel_rfl) (d_storeW (v := .int .u64 _) H1.drew i hi1 S1.wh (hz.st S1) (j := j) (by omega) rfl rfl Tryz.szT98 ⟨_, bits2_or_nn _ _, rfl⟩) ?_
      rintro _ w2 ⟨h2, H2, S2⟩
      rw [List.set_set] at H2
      refine b_endW (by kernel_rfl) ?_
      refine x_normb ?_
      refine x_norm ?_
      refine c_regionW ?_
      refine s_valW ev_move ?_
      refine s_valW ((by simpa using ev_addI (i := ((j + 1 : Nat) : Int)) (j := 1) rfl rfl : Ev Tryz.prog _ _ _ _ (.int .i64 ((j + 1 + 1 : Nat) : Int)))) ?_
      refine s_valW ev_assign ?_
      refine s_nilW ?_
      refine x_norm ?_
      exact ⟨j + 1, _, rfl, ⟨by omega, h2, H2, S1.trans S2, _, _, _, _, ha, hb, sl6 rfl rfl rfl rfl rfl rfl⟩, by omega⟩
    · refine c_exitW ?_
      refine x_exit ?_
      refine x_exit ?_
      refine x_exitb ?_
      refine x_norm ?_
      refine c_seqW ?_
      refine c_regionW ?_
      have hk : (n : Int) - 1 = ((n - 1 : Nat) : Int) := by omega
      obtain ⟨_, u, hbq, hu, hcell⟩ := H1.word hi1 S1.wh (hx.st S1) (j := n - 1) (by omega)
      cases hbq
      refine s_valW ev_move ?_
      refine s_valW ev_move ?_
      refine s_valW (ev_len_slice rfl Tryz.underlying77) ?_
      refine s_valW (ev_subI rfl rfl) ?_
      refine s_valW ev_move ?_
      refine s_valW ev_move ?_
      refine s_valW (ev_len_slice rfl Tryz.underlying77) ?_
      refine s_valW (ev_subI rfl rfl) ?_
      refine s_valW (ev_ix (i := n - 1) rfl (congrArg (Value.int .i64) hk) Tryz.underlying77 Tryz.szT98 (by omega)) ?_
      refine s_valW (ev_load rfl Tryz.underlying98 rfl hcell) ?_
      refine s_valW ev_move ?_
      refine s_valW (ev_shr rfl rfl ha) ?_
      refine s_valW (ev_ix (i := n - 1) rfl (congrArg (Value.int .i64) hk) Tryz.underlying77 Tryz.szT98 (by omega)) ?_
      refine s_eff0W (d_storeW (v := .int .u64 _) H1 i hi1 S1.wh (hz.st S1) (j := n - 1) (by omega) rfl rfl Tryz.szT98 ⟨_, Int.fdiv_nonneg hu (by exact Int.le_of_lt (Int.pow_pos (by omega))), rfl⟩) ?_
      rintro _ w2 ⟨h2, H2, S2⟩
      rw [List.set_set] at H2
      refine s_nilW ?_
      refine x_norm ?_
      refine c_retW ?_
      exact r_ret rfl rfl ⟨h2, H2, S1.trans S2⟩

theorem zRshVU (H : Own K W0 w L) (i : Nat) (hi : L[i]? = some h) (hw : WH h) (z x : Value) (n s : Nat) (hz : Nv h z n) (hx : Nv h x n) (hn : n ≤ 1000000) (hs : 0 < s) (hs2 : s < 64) :
    Calls Tryz.prog 53 #[z, x, .int .u64 (s : Nat)] w fun e w' => ∃ u, e = .returned u ∧ ∃ h', Own K W0 w' (L.set i h') ∧ Nst h h' := by
  refine bodyW (n := 11) (args := [z, x, .int .u64 (s : Nat)]) Tryz.func53 rfl rfl rfl ?_
  refine c_seqW ?_
  refine c_regionW ?_
  refine s_valW ev_assign ?_
  refine s_nilW ?_
  refine x_norm ?_
  refine c_seqW ?_
  refine c_regionW ?_
  refine s_valW ev_move ?_
  refine s_valW ev_move ?_
  refine s_valW ev_move ?_
  refine s_effW (d_call Tryz.call55 (zRshVUg H i hi hw _ _ n s hz hx hn hs hs2)) ?_
  rintro _ w1 ⟨h1, H1, S1⟩
  refine s_valW ev_assign ?_
  refine s_nilW ?_
  refine x_norm ?_
  refine c_retW ?_
  exact r_ret rfl rfl ⟨h1, H1, S1⟩

theorem zRsh (H : Own K W0 w L) (i : Nat) (hi : L[i]? = some h) (hw : WH h) (z x : Value) (k n s : Nat) (hz : Nv h z k) (hx : Nv h x n) (hk : k ≤ 1000000) (hn : n ≤ 1000000) (hs : 0 < s) (hs2 : s < 64) :
    Calls Tryz.prog 46 #[z, x, .int .u64 (s : Nat)] w fun e w' => ∃ u, e = .returned u ∧ ∃ h' m, m ≤ n ∧ Own K W0 w' (L.set i h') ∧ Nst h h' ∧ Nv h' u m := by
  obtain ⟨p, cp, rfl⟩ := hz.slice
  obtain ⟨q, cq, rfl⟩ := hx.slice
  have hdiv : s / 64 = 0 := by omega
  have hmod : s % 64 = s := by omega
  refine bodyW (n := 57) (args := [.slice p k cp, .slice q n cq, .int .u64 (s : Nat)]) Tryz.func46 rfl rfl rfl ?_
  by_cases hn0 : (n : Int) ≤ 0
  · refine c_seqW ?_
    refine c_regionW ?_
    refine s_valW ev_assign ?_
    refine s_nilW ?_
    refine x_norm ?_
    refine c_seqW ?_
    refine c_seqW ?_
    refine c_regionW ?_
    refine s_valW ev_move ?_
    refine s_valW (ev_eq_f rfl rfl (by omega)) ?_
    refine s_nilW ?_
    refine x_norm ?_
    refine c_falseW rfl ?_
    refine c_skipW ?_
    refine x_norm ?_
    refine c_seqW ?_
    refine c_regionW ?_
    refine s_valW ev_move ?_
    refine s_valW (ev_len_slice rfl Tryz.underlying78) ?_
    refine s_valW ev_assign ?_
    refine s_nilW ?_
    refine x_norm ?_
    refine c_seqW ?_
    refine c_regionW ?_
    refine s_valW ev_move ?_
    refine s_valW ev_move ?_
    refine s_valW ((ev_quoUv (i := s) (j := 64) hdiv rfl rfl (by omega) (by omega))) ?_
    refine s_valW ((ev_convI (i := 0) rfl Tryz.underlying47 Tryz.underlying3 (by omega))) ?_
    refine s_valW ((by simpa using ev_subI (i := (n : Nat)) (j := ((0 : Nat) : Int)) rfl rfl : Ev Tryz.prog _ _ _ _ (.int .i64 (n : Nat)))) ?_
    refine s_valW ev_assign ?_
    refine s_nilW ?_
    refine x_norm ?_
    refine c_seqW ?_
    refine c_seqW ?_
    refine c_regionW ?_
    refine s_valW ev_move ?_
    refine s_valW (ev_le_t rfl rfl hn0) ?_
    refine s_nilW ?_
    refine x_norm ?_
    refine c_trueW rfl ?_
    refine c_seqW ?_
    refine c_regionW ?_
    refine s_valW ev_move ?_
    refine s_valW (ev_slice_h (j := 0) rfl rfl Tryz.underlying78 Tryz.szT98 (by omega)) ?_
    refine s_valW ev_assign ?_
    refine s_nilW ?_
    refine x_norm ?_
    refine c_retW ?_
    refine x_ret ?_
    exact r_ret rfl rfl ⟨h, 0, by omega, by rw [set_self hi]; exact H, .refl hw, hz.cut (by omega)⟩
  · refine c_seqW ?_
    refine c_regionW ?_
    refine s_valW ev_assign ?_
    refine s_nilW ?_
    refine x_norm ?_
    refine c_seqW ?_
    refine c_seqW ?_
    refine c_regionW ?_
    refine s_valW ev_move ?_
    refine s_valW (ev_eq_f rfl rfl (by omega)) ?_
    refine s_nilW ?_
    refine x_norm ?_
    refine c_falseW rfl ?_
    refine c_skipW ?_
    refine x_norm ?_
    refine c_seqW ?_
    refine c_regionW ?_
    refine s_valW ev_move ?_
    refine s_valW (ev_len_slice rfl Tryz.underlying78) ?_
    refine s_valW ev_assign ?_
    refine s_nilW ?_
    refine x_norm ?_
    refine c_seqW ?_
    refine c_regionW ?_
    refine s_valW ev_move ?_
    refine s_valW ev_move ?_
    refine s_valW ((ev_quoUv (i := s) (j := 64) hdiv rfl rfl (by omega) (by omega))) ?_
    refine s_valW ((ev_convI (i := 0) rfl Tryz.underlying47 Tryz.underlying3 (by omega))) ?_
    refine s_valW ((by simpa using ev_subI (i := (n : Nat)) (j := ((0 : Nat) : Int)) rfl rfl : Ev Tryz.prog _ _ _ _ (.int .i64 (n : Nat)))) ?_
    refine s_valW ev_assign ?_
    refine s_nilW ?_
    refine x_norm ?_
    refine c_seqW ?_
    refine c_seqW ?_
    refine c_regionW ?_
    refine s_valW ev_move ?_
    refine s_valW (ev_le_f rfl rfl hn0) ?_
    refine s_nilW ?_
    refine x_norm ?_
    refine c_falseW rfl ?_
    refine c_skipW ?_
    refine x_norm ?_
    refine c_seqW ?_
    refine c_regionW ?_
    refine s_valW ev_move ?_
    refine s_valW ev_move ?_
    refine s_effW (d_call Tryz.call48 (zNatMake H i hi hw _ n k hz (by omega) hn hk)) ?_
    rintro v w1 ⟨h1, H1, S1, hv⟩
    obtain ⟨p1, c1, rfl⟩ := hv.slice
    have hi1 := set_get hi h1
    refine s_valW ev_assign ?_
    refine s_nilW ?_
    refine x_norm ?_
    refine c_seqW ?_
    refine c_seqW ?_
    refine c_regionW ?_
    refine s_valW ev_move ?_
    refine s_valW ((ev_remUv (i := s) (j := 64) hmod rfl rfl (by omega))) ?_
    refine s_valW ev_assign ?_
    refine s_nilW ?_
    refine x_norm ?_
    refine c_seqW ?_
    refine c_regionW ?_
    refine s_valW ev_move ?_
    refine s_valW (ev_eq_f rfl rfl (by omega)) ?_
    refine s_nilW ?_
    refine x_norm ?_
    refine c_falseW rfl ?_
    refine c_regionW ?_
    refine s_valW ev_move ?_
    refine s_valW ev_move ?_
    refine s_valW ev_move ?_
    refine s_valW ev_move ?_
    refine s_valW ((by simpa using ev_subI (i := (n : Nat)) (j := (n : Nat)) rfl rfl : Ev Tryz.prog _ _ _ _ (.int .i64 0))) ?_
    refine s_valW (ev_slice_0 rfl rfl Tryz.underlying78 Tryz.szT98) ?_
    refine s_valW ev_move ?_
    refine s_effW (d_call Tryz.call53 (zRshVU H1 i hi1 S1.wh _ _ n s hv (hx.st S1) hn hs hs2)) ?_
    rintro _ w2 ⟨h2, H2, S2⟩
    rw [List.set_set] at H2
    have hi2 := set_get hi h2
    refine s_nilW ?_
    refine x_norm ?_
    refine c_seqW ?_
    refine c_regionW ?_
    refine s_valW ev_move ?_
    refine s_effW (d_call Tryz.call45 (zNorm H2 i hi2 S2.wh _ n (hv.st S2) hn)) ?_
    rintro v w4 ⟨⟨m, hm, hv4⟩, rfl⟩
    refine s_valW ev_assign ?_
    refine s_nilW ?_
    refine x_norm ?_
    refine c_retW ?_
    exact r_ret rfl rfl ⟨h2, m, hm, H2, S1.trans S2, hv4⟩
end
end Go.Proofs.YtgikfcmcgpcckaaGreatDoor
