/- Walks through functions of the program: each call comes to what its theorem says. A part of the proofs of FnExactDegree and FnExactCoefficient. -/
import Derived.Test.YtgikfcmcgpcckaaGreatDoorSp5
import Derived.Test.YtgikfcmcgpcckaaGreatDoorNh
namespace Go.Proofs.YtgikfcmcgpcckaaGreatDoor
open Go Go.RowKit Sl

theorem ev_callv {P : Program} {n : Nat} {e : Env} {w : World} {ty : TypeId} {f : FuncId} {as' : List Operand} {ts : Array TypeId} {v : Value}
    (h : (callFunc f (as'.map (opv n e)).toArray).run P w = .ok (.value v) w) : Ev P (opv n e) (.call { callee := .value (.func f), args := as'.toArray, argTypes := ts }) ty w v := by
  unfold Ev
  simp [execOp, resolve, Deferred.ofValue, opv, go_sem, invoke, h]

theorem zAdd64 (x y : Int) (hx : 0 ≤ x) (hy : 0 ≤ y) (w : World) :
    (callFunc 62 #[.int .u64 x, .int .u64 y, .int .u64 0]).run Tryz.prog w = .ok (.value (.tuple #[.int .u64 ((x + y + 0) % 18446744073709551616), .int .u64 ((x + y + 0) / 18446744073709551616)])) w := by
  rw [run_callFunc_extern Tryz.func62 (by kernel_rfl) (by kernel_rfl) (by kernel_rfl) (e := add64Entry) (by kernel_rfl), run_add64 x y 0 hx hy (by omega) (by omega)]
  rfl

def Two (u : Value) : Prop := ∃ a b, u = .tuple #[a, b] ∧ Wd a ∧ Wd b

theorem zMul64 (a b : Value) (ha : Wd a) (hb : Wd b) (w : World) : Calls Tryz.prog 60 #[a, b] w fun e w' => ∃ u, e = .returned u ∧ (Two u ∧ w' = w) := by
  obtain ⟨x, hx, rfl⟩ := ha
  obtain ⟨y, hy, rfl⟩ := hb
  refine bodyW (n := 51) (args := [.int .u64 x, .int .u64 y]) Tryz.func60 rfl rfl rfl ?_
  refine c_seqW ?_
  refine c_regionW ?_
  refine s_valW ev_assign ?_
  refine s_valW ev_assign ?_
  refine s_nilW ?_
  refine x_norm ?_
  refine c_seqW ?_
  refine c_regionW ?_
  refine s_valW ev_move ?_
  refine s_valW (ev_and rfl rfl) ?_
  refine s_valW ev_assign ?_
  refine s_nilW ?_
  refine x_norm ?_
  refine c_seqW ?_
  refine c_regionW ?_
  refine s_valW ev_move ?_
  refine s_valW (ev_shr rfl rfl (by decide)) ?_
  refine s_valW ev_assign ?_
  refine s_nilW ?_
  refine x_norm ?_
  refine c_seqW ?_
  refine c_regionW ?_
  refine s_valW ev_move ?_
  refine s_valW (ev_and rfl rfl) ?_
  refine s_valW ev_assign ?_
  refine s_nilW ?_
  refine x_norm ?_
  refine c_seqW ?_
  refine c_regionW ?_
  refine s_valW ev_move ?_
  refine s_valW (ev_shr rfl rfl (by decide)) ?_
  refine s_valW ev_assign ?_
  refine s_nilW ?_
  refine x_norm ?_
  refine c_seqW ?_
  refine c_regionW ?_
  refine s_valW ev_move ?_
  refine s_valW ev_move ?_
  refine s_valW (ev_mul rfl rfl) ?_
  refine s_valW ev_assign ?_
  refine s_nilW ?_
  refine x_norm ?_
  refine c_seqW ?_
  refine c_regionW ?_
  refine s_valW ev_move ?_
  refine s_valW ev_move ?_
  refine s_valW (ev_mul rfl rfl) ?_
  refine s_valW ev_move ?_
  refine s_valW (ev_shr rfl rfl (by decide)) ?_
  refine s_valW (ev_add rfl rfl) ?_
  refine s_valW ev_assign ?_
  refine s_nilW ?_
  refine x_norm ?_
  refine c_seqW ?_
  refine c_regionW ?_
  refine s_valW ev_move ?_
  refine s_valW (ev_and rfl rfl) ?_
  refine s_valW ev_assign ?_
  refine s_nilW ?_
  refine x_norm ?_
  refine c_seqW ?_
  refine c_regionW ?_
  refine s_valW ev_move ?_
  refine s_valW (ev_shr rfl rfl (by decide)) ?_
  refine s_valW ev_assign ?_
  refine s_nilW ?_
  refine x_norm ?_
  refine c_seqW ?_
  refine c_regionW ?_
  refine s_valW ev_move ?_
  refine s_valW ev_move ?_
  refine s_valW ev_move ?_
  refine s_valW (ev_mul rfl rfl) ?_
  refine s_valW (ev_add rfl rfl) ?_
  refine s_valW ev_assign ?_
  refine s_nilW ?_
  refine x_norm ?_
  refine c_seqW ?_
  refine c_regionW ?_
  refine s_valW ev_move ?_
  refine s_valW ev_move ?_
  refine s_valW (ev_mul rfl rfl) ?_
  refine s_valW ev_move ?_
  refine s_valW (ev_add rfl rfl) ?_
  refine s_valW ev_move ?_
  refine s_valW (ev_shr rfl rfl (by decide)) ?_
  refine s_valW (ev_add rfl rfl) ?_
  refine s_valW ev_assign ?_
  refine s_nilW ?_
  refine x_norm ?_
  refine c_seqW ?_
  refine c_regionW ?_
  refine s_valW ev_move ?_
  refine s_valW ev_move ?_
  refine s_valW (ev_mul rfl rfl) ?_
  refine s_valW ev_assign ?_
  refine s_nilW ?_
  refine x_norm ?_
  refine c_retW ?_
  exact r_ret2 rfl rfl rfl ⟨⟨_, _, rfl, wd_wrap _, wd_wrap _⟩, rfl⟩

theorem zMul (a b : Value) (ha : Wd a) (hb : Wd b) (w : World) : Calls Tryz.prog 57 #[a, b] w fun e w' => ∃ u, e = .returned u ∧ (Two u ∧ w' = w) := by
  refine bodyW (n := 30) (args := [a, b]) Tryz.func57 rfl rfl rfl ?_
  refine c_seqW ?_
  refine c_regionW ?_
  refine s_valW ev_assign ?_
  refine s_valW ev_assign ?_
  refine s_nilW ?_
  refine x_norm ?_
  refine c_seqW ?_
  refine c_falseW rfl ?_
  refine c_skipW ?_
  refine x_norm ?_
  refine c_seqW ?_
  refine c_regionW ?_
  refine s_valW ev_move ?_
  refine s_valW ev_move ?_
  refine s_effW (d_call Tryz.call60 (zMul64 _ _ ha hb _)) ?_
  rintro _ _ ⟨⟨c, d, rfl, hc, hd⟩, rfl⟩
  refine s_valW ev_move ?_
  refine s_valW (ev_extract rfl rfl) ?_
  refine s_valW (ev_extract rfl rfl) ?_
  refine s_valW ev_assign ?_
  refine s_valW ev_assign ?_
  refine s_nilW ?_
  refine x_norm ?_
  refine c_seqW ?_
  refine c_regionW ?_
  refine s_valW ev_move ?_
  refine s_valW ev_move ?_
  refine s_valW ev_assign ?_
  refine s_valW ev_assign ?_
  refine s_nilW ?_
  refine x_norm ?_
  refine c_retW ?_
  exact r_ret2 rfl rfl rfl ⟨⟨_, _, rfl, hc, hd⟩, rfl⟩

theorem zAdd (a b : Value) (ha : Wd a) (hb : Wd b) (w : World) : Calls Tryz.prog 58 #[a, b, .int .u64 0] w fun e w' => ∃ u, e = .returned u ∧ (Two u ∧ w' = w) := by
  obtain ⟨x, hx, rfl⟩ := ha
  obtain ⟨y, hy, rfl⟩ := hb
  refine bodyW (n := 35) (args := [.int .u64 x, .int .u64 y, .int .u64 0]) Tryz.func58 rfl rfl rfl ?_
  refine c_seqW ?_
  refine c_regionW ?_
  refine s_valW ev_assign ?_
  refine s_valW ev_assign ?_
  refine s_nilW ?_
  refine x_norm ?_
  refine c_seqW ?_
  refine c_falseW rfl ?_
  refine c_skipW ?_
  refine x_norm ?_
  refine c_seqW ?_
  refine c_regionW ?_
  refine s_valW ev_move ?_
  refine s_valW ev_move ?_
  refine s_valW ev_move ?_
  refine s_valW (ev_callv (zAdd64 x y hx hy _)) ?_
  refine s_valW ev_move ?_
  refine s_valW (ev_extract rfl rfl) ?_
  refine s_valW (ev_extract rfl rfl) ?_
  refine s_valW ev_assign ?_
  refine s_valW ev_assign ?_
  refine s_nilW ?_
  refine x_norm ?_
  refine c_seqW ?_
  refine c_regionW ?_
  refine s_valW ev_move ?_
  refine s_valW ev_move ?_
  refine s_valW ev_assign ?_
  refine s_valW ev_assign ?_
  refine s_nilW ?_
  refine x_norm ?_
  refine c_retW ?_
  exact r_ret2 rfl rfl rfl ⟨⟨_, _, rfl, ⟨_, by omega, rfl⟩, ⟨_, by omega, rfl⟩⟩, rfl⟩

theorem zMulAddWWW (a b c : Value) (ha : Wd a) (hb : Wd b) (hc : Wd c) (w : World) : Calls Tryz.prog 56 #[a, b, c] w fun e w' => ∃ u, e = .returned u ∧ (Two u ∧ w' = w) := by
  refine bodyW (n := 27) (args := [a, b, c]) Tryz.func56 rfl rfl rfl ?_
  refine c_seqW ?_
  refine c_regionW ?_
  refine s_valW ev_assign ?_
  refine s_valW ev_assign ?_
  refine s_nilW ?_
  refine x_norm ?_
  refine c_seqW ?_
  refine c_regionW ?_
  refine s_valW ev_move ?_
  refine s_valW ev_move ?_
  refine s_effW (d_call Tryz.call57 (zMul _ _ ha hb _)) ?_
  rintro _ _ ⟨⟨hi, lo, rfl, hhi, hlo⟩, rfl⟩
  refine s_valW ev_move ?_
  refine s_valW (ev_extract rfl rfl) ?_
  refine s_valW (ev_extract rfl rfl) ?_
  refine s_valW ev_assign ?_
  refine s_valW ev_assign ?_
  refine s_nilW ?_
  refine x_norm ?_
  refine c_seqW ?_
  refine c_regionW ?_
  refine s_valW ev_assign ?_
  refine s_nilW ?_
  refine x_norm ?_
  refine c_seqW ?_
  refine c_regionW ?_
  refine s_valW ev_move ?_
  refine s_valW ev_move ?_
  refine s_effW (d_call Tryz.call58 (zAdd _ _ hlo hc _)) ?_
  rintro _ _ ⟨⟨lo2, cc, rfl, hlo2, ⟨c3, hc3, rfl⟩⟩, rfl⟩
  obtain ⟨h3, hh3, rfl⟩ := hhi
  refine s_valW ev_move ?_
  refine s_valW (ev_extract rfl rfl) ?_
  refine s_valW (ev_extract rfl rfl) ?_
  refine s_valW ev_assign ?_
  refine s_valW ev_assign ?_
  refine s_nilW ?_
  refine x_norm ?_
  refine c_seqW ?_
  refine c_regionW ?_
  refine s_valW ev_move ?_
  refine s_valW ev_move ?_
  refine s_valW (ev_add rfl rfl) ?_
  refine s_valW ev_move ?_
  refine s_valW ev_assign ?_
  refine s_valW ev_assign ?_
  refine s_nilW ?_
  refine x_norm ?_
  refine c_retW ?_
  exact r_ret2 rfl rfl rfl ⟨⟨_, _, rfl, wd_wrap _, hlo2⟩, rfl⟩

section
variable {K : Nat → Prop} {W0 w : World} {L : List Hl} {i : Nat} {h : Hl}

/-- z's words are written over; both numbers are of n words. -/
theorem zMulAddVWWg (H : Own K W0 w L) (i : Nat) (hi : L[i]? = some h) (hw : WH h) (z x a b : Value) (n : Nat) (hz : Nv h z n) (hx : Nv h x n) (ha : Wd a) (hb : Wd b) (hn : n ≤ 1000000) :
    Calls Tryz.prog 54 #[z, x, a, b] w fun e w' => ∃ u, e = .returned u ∧ (Wd u ∧ ∃ h', Own K W0 w' (L.set i h') ∧ Nst h h') := by
  obtain ⟨p, cp, rfl⟩ := hz.slice
  obtain ⟨q, cq, rfl⟩ := hx.slice
  refine bodyW (n := 36) (args := [.slice p n cp, .slice q n cq, a, b]) Tryz.func54 rfl rfl rfl ?_
  refine c_seqW ?_
  refine c_regionW ?_
  refine s_valW ev_assign ?_
  refine s_nilW ?_
  refine x_norm ?_
  refine c_seqW ?_
  refine c_seqW ?_
  refine c_regionW ?_
  refine s_valW ev_move ?_
  refine s_valW (ev_len_slice rfl Tryz.underlying77) ?_
  refine s_valW ev_move ?_
  refine s_valW (ev_len_slice rfl Tryz.underlying77) ?_
  refine s_valW (ev_ne_f rfl rfl rfl) ?_
  refine s_nilW ?_
  refine x_norm ?_
  refine c_falseW rfl ?_
  refine c_skipW ?_
  refine x_norm ?_
  refine c_seqW ?_
  refine c_regionW ?_
  refine s_valW ev_move ?_
  refine s_valW ev_assign ?_
  refine s_nilW ?_
  refine x_norm ?_
  refine c_seqW ?_
  refine c_seqW ?_
  refine c_regionW ?_
  refine s_valW ev_move ?_
  refine s_valW (ev_len_slice rfl Tryz.underlying77) ?_
  refine s_valW ev_move ?_
  refine s_nilW ?_
  refine x_norm ?_
  refine c_blockW ?_
  refine c_loopW (α := Nat) (fun j e w' => j ≤ n ∧ ∃ h' c, Wd c ∧ Own K W0 w' (L.set i h') ∧ Nst h h' ∧ ∃ e0, e = upd (upd (upd (upd (upd (upd e0 0 (.slice p n cp)) 1 (.slice q n cq)) 2 a) 8 c) 18 (.int .i64 n)) 19 (.int .i64 (j : Nat))) (fun j => n - j) 0 (by exact ⟨by omega, h, b, hb, by rw [set_self hi]; exact H, .refl hw, _, sl6 rfl rfl rfl rfl rfl rfl⟩) ?_
  rintro j e w1 ⟨hj, h1, c, hc, H1, S1, e, rfl⟩
  have hi1 := set_get hi h1
  refine c_seqW ?_
  refine c_regionW ?_
  refine s_valW (ev_lt rfl rfl) ?_
  refine s_nilW ?_
  refine x_norm ?_
  refine c_seqW ?_
  refine c_ifW rfl (fun hlt => ?_) (fun hlt => ?_)
  · refine c_skipW ?_
    refine x_norm ?_
    refine c_seqW ?_
    refine c_blockW ?_
    refine c_seqW ?_
    refine c_regionW ?_
    refine s_valW ev_move ?_
    refine s_valW ev_assign ?_
    refine s_nilW ?_
    refine x_norm ?_
    refine c_regionW ?_
    refine s_valW ev_move ?_
    refine s_valW ev_move ?_
    refine s_valW ev_move ?_
    refine s_valW ev_move ?_
    obtain ⟨bq, u, rfl, hu, hcell⟩ := H1.word hi1 S1.wh (hx.st S1) (j := j) (by omega)
    obtain ⟨bp, _, rfl, _, _⟩ := H1.word hi1 S1.wh (hz.st S1) (j := j) (by omega)
    refine s_valW (ev_ix rfl rfl Tryz.underlying77 Tryz.szT98 (by omega)) ?_
    refine s_valW (ev_load rfl Tryz.underlying98 rfl hcell) ?_
    refine s_valW ev_move ?_
    refine s_valW ev_move ?_
    refine s_effW (d_call Tryz.call56 (zMulAddWWW _ _ _ ⟨u, hu, rfl⟩ ha hc _)) ?_
    rintro _ _ ⟨⟨c1, z0, rfl, hc1, hz0⟩, rfl⟩
    refine s_valW ev_move ?_
    refine s_valW (ev_extract rfl rfl) ?_
    refine s_valW (ev_extract rfl rfl) ?_
    refine s_valW ev_assign ?_
    refine s_valW (ev_ix rfl rfl Tryz.underlying77 Tryz.szT98 (by omega)) ?_
    refine s_eff0W (d_storeW (v := z0) H1 i hi1 S1.wh (hz.st S1) (j := j) (by omega) rfl rfl Tryz.szT98 hz0) ?_
    rintro _ w2 ⟨h2, H2, S2⟩
    rw [List.set_set] at H2
    refine s_nilW ?_
    refine x_normb ?_
    refine x_norm ?_
    refine c_regionW ?_
    refine s_valW (ev_addI rfl rfl) ?_
    refine s_valW ev_move ?_
    refine s_nilW ?_
    refine x_norm ?_
    exact ⟨j + 1, _, rfl, ⟨by omega, h2, c1, hc1, H2, S1.trans S2, _, sl6 rfl rfl rfl rfl rfl rfl⟩, by omega⟩
  · refine c_exitW ?_
    refine x_exit ?_
    refine x_exit ?_
    refine x_exitb ?_
    refine x_norm ?_
    refine c_retW ?_
    exact r_ret rfl rfl ⟨hc, h1, H1, S1⟩

theorem zMulAddVWW (H : Own K W0 w L) (i : Nat) (hi : L[i]? = some h) (hw : WH h) (z x a b : Value) (n : Nat) (hz : Nv h z n) (hx : Nv h x n) (ha : Wd a) (hb : Wd b) (hn : n ≤ 1000000) :
    Calls Tryz.prog 49 #[z, x, a, b] w fun e w' => ∃ u, e = .returned u ∧ (Wd u ∧ ∃ h', Own K W0 w' (L.set i h') ∧ Nst h h') := by
  refine bodyW (n := 14) (args := [z, x, a, b]) Tryz.func49 rfl rfl rfl ?_
  refine c_seqW ?_
  refine c_regionW ?_
  refine s_valW ev_assign ?_
  refine s_nilW ?_
  refine x_norm ?_
  refine c_seqW ?_
  refine c_regionW ?_
  refine s_valW ev_move ?_
  refine s_valW ev_move ?_
  refine s_valW ev_move ?_
  refine s_valW ev_move ?_
  refine s_effW (d_call Tryz.call54 (zMulAddVWWg H i hi hw _ _ _ _ n hz hx ha hb hn)) ?_
  rintro _ w1 ⟨hc, h1, H1, S1⟩
  refine s_valW ev_assign ?_
  refine s_nilW ?_
  refine x_norm ?_
  refine c_retW ?_
  exact r_ret rfl rfl ⟨hc, h1, H1, S1⟩
end
end Go.Proofs.YtgikfcmcgpcckaaGreatDoor
