/- Walks through functions of the program: each call comes to what its theorem says. A part of the proofs of FnExactDegree and FnExactCoefficient. -/
import Derived.Test.YtgikfcmcgpcckaaGreatDoorGp3
namespace Go.Proofs.YtgikfcmcgpcckaaGreatDoor
open Go Go.RowKit Sl

theorem Grp.one {R : Rd} {c : Int} {cv od : Value} (g : Grp R c cv od) (v3 : Value) (h3 : v3.oneCell' = true) : ∀ v ∈ (#[cv, od, v3] : Array Value).toList, v.oneCell' = true := by
  obtain ⟨pb, cs, fz, bits, rfl, _⟩ := g.cv
  obtain ⟨p, k, rfl⟩ := g.ord.slice
  intro v hv
  simp only [List.mem_cons, List.not_mem_nil, or_false] at hv
  rcases hv with rfl | rfl | rfl
  · rfl
  · rfl
  · exact h3
theorem one_put (b : Nat) (o o2 : Obj) : (Hl.one b o).put b o2 = Hl.one b o2 := by
  funext k; unfold Hl.put Hl.one; split <;> rfl
theorem isSc_len {c : Int} {bs : List Nat} (h : isSc c bs = true) : bs.length = szOf c := by
  unfold isSc at h
  rw [Bool.and_eq_true, decide_eq_true_eq] at h
  exact h.1
theorem isSc_lt {c : Int} {bs : List Nat} (h : isSc c bs = true) : BE bs < BE (ordB c) := by
  unfold isSc at h
  rw [Bool.and_eq_true, decide_eq_true_eq, decide_eq_true_eq] at h
  rw [ordB_val]
  exact h.2

section
variable {K : Nat → Prop} {W0 w : World} {R : Rd}

theorem zUnmarshal {sb kb0 n0 k0 : Nat} {c : Int} {cv od v : Value} {bs : List Nat} (H : Own K W0 w [Hl.one sb (sclO cv od kb0 n0 k0)]) (hg : Grp (Kept K W0) c cv od) (hv : BytesR (Kept K W0) v bs) (hs : isSc c bs = true) (hb : ∀ b ∈ bs, b < 256) :
    Calls Tryz.prog 123 #[.pointer (some ⟨sb, 0, none⟩), v] w fun e w' => ∃ u, e = .returned u ∧ (u = .bool true ∧ ∃ kb, Own K W0 w' [Hl.one sb (sclO cv od kb (szOf c) (szOf c)), Hl.one kb (.cells (bA bs) 5 (0, 0))]) := by
  have hlen := isSc_len hs
  have hpos := szOf_pos c
  have hle := szOf_le c
  have hne : bs ≠ [] := fun h => by rw [h] at hlen; simp at hlen; omega
  obtain ⟨vb, vo, vc, vcs, vt, vfz, rfl, hvb, hvx, hvs⟩ := hv.cells hne
  refine bodyW (n := 49) (args := [.pointer (some ⟨sb, 0, none⟩), .slice (some ⟨vb, vo, none⟩) bs.length vc]) Tryz.func123 rfl rfl rfl ?_
  refine c_seqW ?_
  refine c_regionW ?_
  refine s_valW ev_assign ?_
  refine s_nilW ?_
  refine x_norm ?_
  refine c_seqW ?_
  refine c_regionW ?_
  refine s_valW ev_move ?_
  refine s_valW ev_move ?_
  refine s_valW (ev_nilCheck rfl) ?_
  refine s_valW (ev_field rfl Tryz.underlying162 rfl Tryz.szT71 rfl) ?_
  refine s_valW ((ev_loadAgg rfl Tryz.underlying71 rfl Tryz.szT71 (H.heap1 0 rfl) (by show 0 + 2 ≤ 3; omega) : Ev Tryz.prog _ _ _ _ (.agg #[cv, od]))) ?_
  refine s_effW (d_call Tryz.call92 (zZeroScalar H hg)) ?_
  rintro _ w1 ⟨kb, sb2, rfl, H1⟩
  have H1 : Own K W0 w1 [Hl.one sb (sclO cv od kb0 n0 k0), Hl.one kb (.cells (bA (zer (szOf c))) 5 (0, 0)), Hl.one sb2 (sclO cv od kb (szOf c) (szOf c))] := H1
  refine s_valW (ev_nilCheck rfl) ?_
  refine s_valW ((ev_loadAgg rfl Tryz.underlying162 rfl Tryz.szT162 (H1.heap1 2 rfl) (by show 0 + 3 ≤ 3; omega) : Ev Tryz.prog _ _ _ _ (.agg #[cv, od, .slice (some ⟨kb, 0, none⟩) (szOf c) (szOf c)]))) ?_
  refine s_valW (ev_nilCheck rfl) ?_
  refine s_eff0W (d_store (vs := #[cv, od, .slice (some ⟨kb, 0, none⟩) (szOf c) (szOf c)]) (t := 162) H1 0 rfl rfl rfl (one_at _ _) Tryz.szT162 rfl (hg.one _ rfl) (by show 0 + 3 ≤ 3; omega)) ?_
  rintro _ w2 H2
  rw [splice_all (by rfl)] at H2
  have H2 : Own K W0 w2 [(Hl.one sb (sclO cv od kb0 n0 k0)).put sb (sclO cv od kb (szOf c) (szOf c)), Hl.one kb (.cells (bA (zer (szOf c))) 5 (0, 0)), Hl.one sb2 (sclO cv od kb (szOf c) (szOf c))] := H2
  rw [one_put] at H2
  refine s_nilW ?_
  refine x_norm ?_
  refine c_seqW ?_
  refine c_seqW ?_
  refine c_regionW ?_
  refine s_valW ev_move ?_
  refine s_valW (ev_len_slice rfl Tryz.underlying29) ?_
  refine s_valW ev_move ?_
  refine s_valW (ev_nilCheck rfl) ?_
  refine s_valW (ev_field rfl Tryz.underlying162 rfl Tryz.szT29 rfl) ?_
  refine s_valW ((ev_loadH rfl Tryz.underlying29 rfl (H2.heap1 0 rfl) rfl : Ev Tryz.prog _ _ _ _ (.slice (some ⟨kb, 0, none⟩) (szOf c) (szOf c)))) ?_
  refine s_valW (ev_len_slice rfl Tryz.underlying29) ?_
  refine s_valW (ev_lt_f rfl rfl (by omega)) ?_
  refine s_nilW ?_
  refine x_norm ?_
  refine c_falseW rfl ?_
  refine c_skipW ?_
  refine x_norm ?_
  refine c_seqW ?_
  refine c_regionW ?_
  refine s_valW ev_move ?_
  refine s_valW (ev_nilCheck rfl) ?_
  refine s_valW (ev_field rfl Tryz.underlying162 rfl Tryz.szT29 rfl) ?_
  refine s_valW ((ev_loadH rfl Tryz.underlying29 rfl (H2.heap1 0 rfl) rfl : Ev Tryz.prog _ _ _ _ (.slice (some ⟨kb, 0, none⟩) (szOf c) (szOf c)))) ?_
  refine s_valW ev_move ?_
  refine s_effW (d_copy (dsz := bs.length) H2 1 rfl rfl rfl Tryz.underlying29 Tryz.szT5 (one_at _ _) (H2.kept hvb) (by rw [hlen]; exact Nat.min_self _) hvs (by rw [bA_size, zer_len]; omega) (by rw [hvx]; exact bA_one bs)) ?_
  rintro _ w3 ⟨_, H3⟩
  rw [hvx, splice_all (by rw [Array.length_toList, bA_size, bA_size, zer_len, hlen])] at H3
  have H3 : Own K W0 w3 [Hl.one sb (sclO cv od kb (szOf c) (szOf c)), (Hl.one kb (.cells (bA (zer (szOf c))) 5 (0, 0))).put kb (.cells (bA bs) 5 (0, 0)), Hl.one sb2 (sclO cv od kb (szOf c) (szOf c))] := H3
  rw [one_put] at H3
  have hkb : BytesR (wR w3) (.slice (some ⟨kb, 0, none⟩) (szOf c) (szOf c)) bs := by rw [← hlen]; exact BytesR.of_block (H3.heap1 1 rfl) (fun i x h => bA_get h)
  have hod := (hg.mono H3.read).ord
  refine s_nilW ?_
  refine x_norm ?_
  refine c_seqW ?_
  refine b_beginW (by kernel_rfl) (Hold w3) 22 ?_
  have hS : (Hold w3) (World.drew w3) := hold_drew
  refine b_takeW (calm_then calm_body) hS 0 rfl (by kernel_rfl) (fun _ hS => ev_move) ?_
  refine b_takeW (calm_then calm_body) hS 1 rfl (by kernel_rfl) (fun _ hS => ev_nilCheck rfl) ?_
  refine b_takeW (calm_then calm_body) hS 2 rfl (by kernel_rfl) (fun _ hS => ev_field rfl Tryz.underlying162 rfl Tryz.szT29 rfl) ?_
  refine b_takeW (calm_then calm_body) hS 3 rfl (by kernel_rfl) (fun _ hS => (ev_loadH rfl Tryz.underlying29 rfl (hS.block (H3.heap1 0 rfl)) rfl : Ev Tryz.prog _ _ _ _ (.slice (some ⟨kb, 0, none⟩) (szOf c) (szOf c)))) ?_
  refine b_takeW (calm_then calm_body) hS 4 rfl (by kernel_rfl) (fun _ hS => ev_move) ?_
  refine b_takeW (calm_then calm_body) hS 5 rfl (by kernel_rfl) (fun _ hS => ev_nilCheck rfl) ?_
  refine b_takeW (calm_then calm_body) hS 6 rfl (by kernel_rfl) (fun _ hS => ev_field rfl Tryz.underlying162 rfl Tryz.szT71 rfl) ?_
  refine b_takeW (calm_then calm_body) hS 7 rfl (by kernel_rfl) (fun _ hS => ev_field rfl Tryz.underlying71 rfl Tryz.szT29 rfl) ?_
  refine b_takeW (calm_then calm_body) hS 8 rfl (by kernel_rfl) (fun _ hS => (ev_loadH rfl Tryz.underlying29 rfl (hS.block (H3.heap1 0 rfl)) rfl : Ev Tryz.prog _ _ _ _ od)) ?_
  refine b_effW 9 rfl (by kernel_rfl) rfl (d_call Tryz.call124 (zIsLess (xs := bs) (hkb.mono rd_drew) (hod.mono rd_drew) (by rw [ordB_len]; exact hlen) (by omega) (by omega) hb (ordB_lt c) (isSc_lt hs))) ?_
  rintro _ w4 ⟨rfl, B4⟩
  have hS : (Hold w3) w4 := hS.below B4
  refine ⟨hS, ?_⟩
  refine b_takeW (calm_then calm_body) hS 10 rfl (by kernel_rfl) (fun _ hS => ev_eq_t rfl rfl rfl) ?_
  refine b_takeW (calm_then calm_body) hS 11 rfl (by kernel_rfl) (fun _ hS => ev_move) ?_
  refine b_takegW (calm_then calm_body) hS 12 rfl (by kernel_rfl) rfl rfl (fun _ hS => ev_move) ?_
  refine b_takegW (calm_then calm_body) hS 13 rfl (by kernel_rfl) rfl rfl (fun _ hS => ev_len_slice rfl Tryz.underlying29) ?_
  refine b_takegW (calm_then calm_body) hS 14 rfl (by kernel_rfl) rfl rfl (fun _ hS => ev_move) ?_
  refine b_takegW (calm_then calm_body) hS 15 rfl (by kernel_rfl) rfl rfl (fun _ hS => ev_nilCheck rfl) ?_
  refine b_takegW (calm_then calm_body) hS 16 rfl (by kernel_rfl) rfl rfl (fun _ hS => ev_field rfl Tryz.underlying162 rfl Tryz.szT29 rfl) ?_
  refine b_takegW (calm_then calm_body) hS 17 rfl (by kernel_rfl) rfl rfl (fun _ hS => (ev_loadH rfl Tryz.underlying29 rfl (hS.block (H3.heap1 0 rfl)) rfl : Ev Tryz.prog _ _ _ _ (.slice (some ⟨kb, 0, none⟩) (szOf c) (szOf c)))) ?_
  refine b_takegW (calm_then calm_body) hS 18 rfl (by kernel_rfl) rfl rfl (fun _ hS => ev_len_slice rfl Tryz.underlying29) ?_
  refine b_takegW (calm_then calm_body) hS 19 rfl (by kernel_rfl) rfl rfl (fun _ hS => ev_eq_t rfl rfl (by omega)) ?_
  refine b_takeW (calm_then calm_body) hS 20 rfl (by kernel_rfl) (fun _ hS => ev_pick_t rfl) ?_
  refine b_takeW (calm_then calm_body) hS 21 rfl (by kernel_rfl) (fun _ hS => ev_assign) ?_
  refine b_doneW (by kernel_rfl) ?_
  refine x_norm ?_
  refine c_retW ?_
  exact r_ret rfl rfl ⟨rfl, kb, (H3.drew.below B4).sub (List.Sublist.cons_cons _ (List.Sublist.cons_cons _ (List.nil_sublist _)))⟩
end
end Go.Proofs.YtgikfcmcgpcckaaGreatDoor
