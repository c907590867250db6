/- Walks through functions of the program: each call comes to what its theorem says. A part of the proofs of FnExactDegree and FnExactCoefficient. -/
import Derived.Test.YtgikfcmcgpcckaaGreatDoorSp2
namespace Go.Proofs.YtgikfcmcgpcckaaGreatDoor
open Go Go.RowKit Sl

def z9 : List Nat := List.replicate 9 0

theorem nA_cells (ws : List Nat) : (Value.agg (nA ws)).cells = nA ws := by
  have : ∀ ws : List Nat, (nA ws).toList = ws.map fun x => Value.int .u64 (x : Nat) := fun ws => by simp [nA]
  rfl
theorem nA_one (ws : List Nat) : ∀ v ∈ (nA ws).toList, v.oneCell' = true := by
  intro v hv
  simp only [nA, List.mem_map] at hv
  obtain ⟨x, _, rfl⟩ := hv
  rfl

theorem zofBytes (v : Value) (bs : List Nat) (w : World) (hr : BytesR (wR w) v bs) (hm : bs.length ≤ 72) (hb : ∀ b ∈ bs, b < 256) :
    Calls Tryz.prog 22 #[v] w fun e w' => ∃ u, e = .returned u ∧ ((∃ ws, u = .agg (nA ws) ∧ ws.length = 9 ∧ (∀ y ∈ ws, y < 18446744073709551616) ∧ val ws = BE bs) ∧ Below w.heap.size w w') := by
  obtain ⟨p, c, rfl⟩ := hr.slice
  refine bodyW (n := 39) (args := [.slice p bs.length c]) Tryz.func22 rfl rfl rfl ?_
  refine c_seqW ?_
  refine c_regionW ?_
  refine s_effW (d_alloc (cs := nA z9) (Own.begin w) Tryz.zeroT50 rfl) ?_
  rintro _ w1 ⟨b2, rfl, H1⟩
  refine s_nilW ?_
  refine x_norm ?_
  refine c_seqW ?_
  refine c_regionW ?_
  refine s_valW (v := .agg (nA z9)) (by unfold Ev; kernel_rfl) ?_
  refine s_effW (d_alloc (cs := nA z9) H1 Tryz.zeroT50 rfl) ?_
  rintro _ w2 ⟨b3, rfl, H2⟩
  refine s_eff0W (d_store (vs := nA z9) (t := 50) H2 1 rfl rfl rfl (b := b3) (cs := nA z9) (tt := 50) (by simp [Hl.one]) Tryz.szT50 rfl (nA_one _) (by decide)) ?_
  rintro _ w3 H3
  rw [splice_all (by rfl)] at H3
  refine s_nilW ?_
  refine x_norm ?_
  refine c_seqW ?_
  refine c_seqW ?_
  refine c_regionW ?_
  refine s_valW ev_assign ?_
  refine s_nilW ?_
  refine x_norm ?_
  refine c_blockW ?_
  refine c_loopW (α := Nat) (fun i e w' => i ≤ bs.length ∧ (∃ ws h3, ws.length = 9 ∧ (∀ y ∈ ws, y < 18446744073709551616) ∧ val ws = LE (bs.reverse.take i) ∧ h3 b3 = some (.cells (nA ws) 50 (0, 0)) ∧ Own (fun k => k < w.heap.size) w w' [Hl.one b2 (.cells (nA z9) 50 (0, 0)), h3]) ∧ ∃ e0, e = upd (upd (upd (upd e0 0 (.slice p bs.length c)) 2 (.pointer (some ⟨b2, 0, none⟩))) 3 (.pointer (some ⟨b3, 0, none⟩))) 4 (.int .i64 (i : Nat))) (fun i => bs.length - i) 0 (by exact ⟨by omega, ⟨z9, _, rfl, by decide, rfl, by simp [Hl.put], H3⟩, _, sl4 rfl rfl rfl rfl⟩) ?_
  rintro i e w4 ⟨hi, ⟨ws, h3, hl, hw, hv, hb3, H⟩, e, rfl⟩
  refine c_seqW ?_
  refine c_seqW ?_
  refine c_regionW ?_
  refine s_valW ev_move ?_
  refine s_valW ev_move ?_
  refine s_valW (ev_len_slice rfl Tryz.underlying29) ?_
  by_cases hlt : (i : Int) < bs.length
  · refine s_valW (ev_lt_t rfl rfl hlt) ?_
    refine s_valW ev_move ?_
    refine s_valgW rfl rfl ev_move ?_
    refine s_valgW rfl rfl (ev_lt_t rfl rfl (by omega)) ?_
    refine s_valW (ev_pick_t rfl) ?_
    refine s_nilW ?_
    refine x_norm ?_
    refine c_trueW rfl ?_
    refine c_skipW ?_
    refine x_norm ?_
    refine c_seqW ?_
    refine c_blockW ?_
    refine b_beginW (by kernel_rfl) (Hold w4) 22 ?_
    have hS : (Hold w4) (World.drew w4) := hold_drew
    obtain ⟨x, hx⟩ : ∃ x, bs[bs.length - 1 - i]? = some x := ⟨bs[bs.length - 1 - i]'(by omega), by simp⟩
    obtain ⟨y, hy, hy64, hx64, hor, hval⟩ := ofStep (by omega) hm hb hl hw hv hx
    obtain ⟨b, o, rfl, hc⟩ := (hr.mono (Sl.Below.rd H.toBelow)).at hx
    have hx256 : x < 256 := hb x (List.mem_of_getElem? hx)
    have hk : ((bs.length : Int) - 1 - (i : Nat)) = ((bs.length - 1 - i : Nat) : Int) := by omega
    refine b_takeW (calm_blk (calm_then (calm_then (calm_blk (calm_then calm_body))))) hS 0 rfl (by kernel_rfl) (fun _ hS => ev_move) ?_
    refine b_takeW (calm_blk (calm_then (calm_then (calm_blk (calm_then calm_body))))) hS 1 rfl (by kernel_rfl) (fun _ hS => ev_quoI (j := 8) rfl rfl) ?_
    refine b_takeW (calm_blk (calm_then (calm_then (calm_blk (calm_then calm_body))))) hS 2 rfl (by kernel_rfl) (fun _ hS => ev_move) ?_
    refine b_takeW (calm_blk (calm_then (calm_then (calm_blk (calm_then calm_body))))) hS 3 rfl (by kernel_rfl) (fun _ hS => ev_quoI (j := 8) rfl rfl) ?_
    refine b_takeW (calm_blk (calm_then (calm_then (calm_blk (calm_then calm_body))))) hS 4 rfl (by kernel_rfl) (fun _ hS => ev_ixArr rfl rfl Tryz.underlying50 Tryz.szT48 (by omega)) ?_
    refine b_takeW (calm_blk (calm_then (calm_then (calm_blk (calm_then calm_body))))) hS 5 rfl (by kernel_rfl) (fun _ hS => ev_loadH rfl Tryz.underlying48 rfl (hS.block (H.heap (i := 1) rfl hb3)) (by rw [Nat.zero_add]; exact nA_get hy)) ?_
    refine b_takeW (calm_blk (calm_then (calm_then (calm_blk (calm_then calm_body))))) hS 6 rfl (by kernel_rfl) (fun _ hS => ev_move) ?_
    refine b_takeW (calm_blk (calm_then (calm_then (calm_blk (calm_then calm_body))))) hS 7 rfl (by kernel_rfl) (fun _ hS => ev_move) ?_
    refine b_takeW (calm_blk (calm_then (calm_then (calm_blk (calm_then calm_body))))) hS 8 rfl (by kernel_rfl) (fun _ hS => ev_len_slice rfl Tryz.underlying29) ?_
    refine b_takeW (calm_blk (calm_then (calm_then (calm_blk (calm_then calm_body))))) hS 9 rfl (by kernel_rfl) (fun _ hS => ev_subI rfl rfl) ?_
    refine b_takeW (calm_blk (calm_then (calm_then (calm_blk (calm_then calm_body))))) hS 10 rfl (by kernel_rfl) (fun _ hS => ev_move) ?_
    refine b_takeW (calm_blk (calm_then (calm_then (calm_blk (calm_then calm_body))))) hS 11 rfl (by kernel_rfl) (fun _ hS => ev_subI rfl rfl) ?_
    refine b_takeW (calm_blk (calm_then (calm_then (calm_blk (calm_then calm_body))))) hS 12 rfl (by kernel_rfl) (fun _ hS => ev_ix (i := bs.length - 1 - i) rfl (congrArg (Value.int .i64) hk) Tryz.underlying29 Tryz.szT5 (by omega)) ?_
    refine b_takeW (calm_blk (calm_then (calm_then (calm_blk (calm_then calm_body))))) hS 13 rfl (by kernel_rfl) (fun _ hS => ev_load rfl Tryz.underlying5 rfl (hS.cell hc)) ?_
    refine b_takeW (calm_blk (calm_then (calm_then (calm_blk (calm_then calm_body))))) hS 14 rfl (by kernel_rfl) (fun _ hS => ev_convU rfl Tryz.underlying5 Tryz.underlying48 (by omega)) ?_
    refine b_takeW (calm_blk (calm_then (calm_then (calm_blk (calm_then calm_body))))) hS 15 rfl (by kernel_rfl) (fun _ hS => ev_move) ?_
    refine b_takeW (calm_blk (calm_then (calm_then (calm_blk (calm_then calm_body))))) hS 16 rfl (by kernel_rfl) (fun _ hS => ev_remI (j := 8) rfl rfl) ?_
    refine b_takeW (calm_blk (calm_then (calm_then (calm_blk (calm_then calm_body))))) hS 17 rfl (by kernel_rfl) (fun _ hS => ev_convU rfl Tryz.underlying3 Tryz.underlying47 (by omega)) ?_
    refine b_takeW (calm_blk (calm_then (calm_then (calm_blk (calm_then calm_body))))) hS 18 rfl (by kernel_rfl) (fun _ hS => ev_mulU (i := 8) rfl rfl (by omega)) ?_
    refine b_takeW (calm_blk (calm_then (calm_then (calm_blk (calm_then calm_body))))) hS 19 rfl (by kernel_rfl) (fun _ hS => ev_shlU rfl rfl (by omega) hx64) ?_
    refine b_takeW (calm_blk (calm_then (calm_then (calm_blk (calm_then calm_body))))) hS 20 rfl (by kernel_rfl) (fun _ hS => ev_orU rfl rfl hy64 hx64) ?_
    refine b_takeW (calm_blk (calm_then (calm_then (calm_blk (calm_then calm_body))))) hS 21 rfl (by kernel_rfl) (fun _ hS => ev_ixArr rfl rfl Tryz.underlying50 Tryz.szT48 (by omega)) ?_
    refine b_barW rfl (by kernel_rfl) (d_store1 (v := .int .u64 ((y ||| x * 2 ^ (8 * (i % 8)) : Nat) : Int)) H.drew 1 rfl rfl rfl hb3 Tryz.szT48 rfl (by rw [nA_size]; omega)) ?_
    rintro _ w5 H5
    rw [Nat.zero_add, nA_set] at H5
    refine b_endW (by kernel_rfl) ?_
    refine x_normb ?_
    refine x_norm ?_
    refine c_regionW ?_
    refine s_valW ev_move ?_
    refine s_valW (ev_addI rfl rfl) ?_
    refine s_valW ev_assign ?_
    refine s_nilW ?_
    refine x_norm ?_
    refine ⟨i + 1, _, rfl, ⟨by omega, ⟨_, _, by rw [List.length_set]; exact hl, ?_, hval, by simp [Hl.put], H5⟩, _, sl4 rfl rfl rfl rfl⟩, by omega⟩
    intro z hz
    rcases List.mem_or_eq_of_mem_set hz with h | h
    · exact hw z h
    · rw [h]; exact hor
  · refine s_valW (ev_lt_f rfl rfl hlt) ?_
    refine s_valW ev_move ?_
    refine s_skipW rfl rfl rfl ?_
    refine s_skipW rfl rfl rfl ?_
    refine s_valW (ev_pick_f rfl) ?_
    refine s_nilW ?_
    refine x_norm ?_
    refine c_falseW rfl ?_
    refine c_exitW ?_
    refine x_exit ?_
    refine x_exit ?_
    refine x_exitb ?_
    refine x_norm ?_
    refine c_seqW ?_
    refine c_regionW ?_
    refine s_valW (ev_loadAgg rfl Tryz.underlying50 rfl Tryz.szT50 (H.heap (i := 1) rfl hb3) (by rw [nA_size, hl]; decide)) ?_
    refine s_eff0W (d_store (vs := nA ws) (t := 50) H 0 rfl rfl (by show ((nA ws).extract 0 (0 + 9)) = _; rw [Array.extract_eq_self_of_le (by rw [nA_size]; omega)]) (b := b2) (cs := nA z9) (tt := 50) (by simp [Hl.one]) Tryz.szT50 (by rw [nA_size, hl]) (nA_one _) (by decide)) ?_
    rintro _ w6 H6
    rw [splice_all (by rw [Array.length_toList, nA_size, nA_size, hl]; rfl)] at H6
    refine s_nilW ?_
    refine x_norm ?_
    refine c_retW ?_
    refine r_retc rfl rfl rfl Tryz.underlying50 rfl Tryz.szT50 (H6.heap (i := 0) rfl (put_at _ _ _)) (by rw [List.size_toArray, Array.length_toList, nA_size, hl]; decide) ⟨⟨ws, ?_, hl, hw, ?_⟩, H6.toBelow⟩
    · simp [nA_size, hl]
    · rw [hv, List.take_of_length_le (by simp; omega), LE_reverse]
end Go.Proofs.YtgikfcmcgpcckaaGreatDoor
