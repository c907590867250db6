/- Walks through functions of the program: each call comes to what its theorem says. A part of the proofs of FnExactDegree and FnExactCoefficient. -/
import Derived.Test.YtgikfcmcgpcckaaGreatDoorGp6
namespace Go.Proofs.YtgikfcmcgpcckaaGreatDoor
open Go Go.RowKit Sl

theorem zCvt {w : World} {c : Int} {cv od kv : Value} {sb : Nat} (hg : Grp (wR w) c cv od) (hs : wR w sb (.cells #[cv, od, kv] 162 (0, 0))) :
    Calls Tryz.prog 121 #[.agg #[cv, od], .iface 159 (.pointer (some ⟨sb, 0, none⟩))] w fun e w' => ∃ u, e = .returned u ∧ (u = .pointer (some ⟨sb, 0, none⟩) ∧ Below w.heap.size w w') := by
  obtain ⟨pb, cs, fz, bits, rfl, hpb, h5, hsz, hbits⟩ := hg.cv
  refine bodyW (n := 38) (args := [.agg #[.iface 65 (.pointer (some ⟨pb, 0, none⟩)), od], .iface 159 (.pointer (some ⟨sb, 0, none⟩))]) Tryz.func121 rfl rfl rfl ?_
  refine c_seqW ?_
  refine c_regionW ?_
  refine s_effW (d_box (cs := #[.iface 65 (.pointer (some ⟨pb, 0, none⟩)), od]) (Own.begin w) rfl) ?_
  rintro _ w1 ⟨tb, rfl, H1⟩
  have hpb1 : w1.heap[pb]? = some (.cells cs 75 fz) := Sl.Below.rd H1.toBelow _ _ hpb
  have hs1 : w1.heap[sb]? = some (.cells #[.iface 65 (.pointer (some ⟨pb, 0, none⟩)), od, kv] 162 (0, 0)) := Sl.Below.rd H1.toBelow _ _ hs
  refine s_valW ev_assign ?_
  refine s_nilW ?_
  refine x_norm ?_
  refine c_seqW ?_
  refine c_seqW ?_
  refine c_regionW ?_
  refine s_valW ev_move ?_
  refine s_valW (ev_ifaceNil_eq rfl rfl Tryz.underlying45) ?_
  refine s_nilW ?_
  refine x_norm ?_
  refine c_falseW rfl ?_
  refine c_skipW ?_
  refine x_norm ?_
  refine c_seqW ?_
  refine c_regionW ?_
  refine s_valW ev_move ?_
  refine s_valW (ev_assertOk rfl Tryz.underlying159 rfl) ?_
  refine s_valW ev_move ?_
  refine s_valW (ev_extract rfl rfl) ?_
  refine s_valW (ev_extract rfl rfl) ?_
  refine s_valW ev_assign ?_
  refine s_valW ev_assign ?_
  refine s_nilW ?_
  refine x_norm ?_
  refine c_seqW ?_
  refine c_seqW ?_
  refine b_beginW (by kernel_rfl) (Hold w1) 20 ?_
  have hS : (Hold w1) (World.drew w1) := hold_drew
  refine b_takeW (calm_then (calm_then calm_body)) hS 0 rfl (by kernel_rfl) (fun _ hS => ev_move) ?_
  refine b_takeW (calm_then (calm_then calm_body)) hS 1 rfl (by kernel_rfl) (fun _ hS => ev_not rfl) ?_
  refine b_takeW (calm_then (calm_then calm_body)) hS 2 rfl (by kernel_rfl) (fun _ hS => ev_move) ?_
  refine b_takegW (calm_then (calm_then calm_body)) hS 3 rfl (by kernel_rfl) rfl rfl (fun _ hS => ev_field rfl Tryz.underlying71 rfl Tryz.szT69 rfl) ?_
  refine b_takegW (calm_then (calm_then calm_body)) hS 4 rfl (by kernel_rfl) rfl rfl (fun _ hS => (ev_loadH rfl Tryz.underlying69 rfl (hS.block (H1.heap1 0 rfl)) rfl : Ev Tryz.prog _ _ _ _ (.iface 65 (.pointer (some ⟨pb, 0, none⟩))))) ?_
  refine b_takegW (calm_then (calm_then calm_body)) hS 9 rfl (by kernel_rfl) rfl rfl (fun _ hS => ev_move) ?_
  refine b_takegW (calm_then (calm_then calm_body)) hS 10 rfl (by kernel_rfl) rfl rfl (fun _ hS => ev_nilCheck rfl) ?_
  refine b_takegW (calm_then (calm_then calm_body)) hS 11 rfl (by kernel_rfl) rfl rfl (fun _ hS => ev_field rfl Tryz.underlying162 rfl Tryz.szT71 rfl) ?_
  refine b_takegW (calm_then (calm_then calm_body)) hS 12 rfl (by kernel_rfl) rfl rfl (fun _ hS => ev_field rfl Tryz.underlying71 rfl Tryz.szT69 rfl) ?_
  refine b_takegW (calm_then (calm_then calm_body)) hS 13 rfl (by kernel_rfl) rfl rfl (fun _ hS => (ev_loadH rfl Tryz.underlying69 rfl (hS.block hs1) rfl : Ev Tryz.prog _ _ _ _ (.iface 65 (.pointer (some ⟨pb, 0, none⟩))))) ?_
  refine b_effgW 5 rfl (by kernel_rfl) rfl rfl rfl (d_invoke (paramsM pb _) (zBitParams _ _)) ?_
  rintro _ _ ⟨rfl, rfl⟩
  have hS : (Hold w1) w1.drew := hS
  refine ⟨hS, ?_⟩
  refine b_takegW (calm_then (calm_then calm_body)) hS 6 rfl (by kernel_rfl) rfl rfl (fun _ hS => ev_nilCheck rfl) ?_
  refine b_takegW (calm_then (calm_then calm_body)) hS 7 rfl (by kernel_rfl) rfl rfl (fun _ hS => ev_field rfl Tryz.underlying75 rfl Tryz.szT3 rfl) ?_
  refine b_takegW (calm_then (calm_then calm_body)) hS 8 rfl (by kernel_rfl) rfl rfl (fun _ hS => (ev_loadH rfl Tryz.underlying3 rfl (hS.block hpb1) h5 : Ev Tryz.prog _ _ _ _ (.int .i64 (bits : Nat)))) ?_
  refine b_effgW 14 rfl (by kernel_rfl) rfl rfl rfl (d_invoke (paramsM pb _) (zBitParams _ _)) ?_
  rintro _ _ ⟨rfl, rfl⟩
  have hS : (Hold w1) w1.drew := hS
  refine ⟨hS, ?_⟩
  refine b_takegW (calm_then (calm_then calm_body)) hS 15 rfl (by kernel_rfl) rfl rfl (fun _ hS => ev_nilCheck rfl) ?_
  refine b_takegW (calm_then (calm_then calm_body)) hS 16 rfl (by kernel_rfl) rfl rfl (fun _ hS => ev_field rfl Tryz.underlying75 rfl Tryz.szT3 rfl) ?_
  refine b_takegW (calm_then (calm_then calm_body)) hS 17 rfl (by kernel_rfl) rfl rfl (fun _ hS => (ev_loadH rfl Tryz.underlying3 rfl (hS.block hpb1) h5 : Ev Tryz.prog _ _ _ _ (.int .i64 (bits : Nat)))) ?_
  refine b_takegW (calm_then (calm_then calm_body)) hS 18 rfl (by kernel_rfl) rfl rfl (fun _ hS => ev_ne_f rfl rfl rfl) ?_
  refine b_takeW (calm_then (calm_then calm_body)) hS 19 rfl (by kernel_rfl) (fun _ hS => ev_pick_f rfl) ?_
  refine b_doneW (by kernel_rfl) ?_
  refine x_norm ?_
  refine c_falseW rfl ?_
  refine c_skipW ?_
  refine x_norm ?_
  refine c_seqW ?_
  refine c_regionW ?_
  refine s_valW ev_move ?_
  refine s_valW ev_assign ?_
  refine s_nilW ?_
  refine x_norm ?_
  refine c_retW ?_
  exact r_ret rfl rfl ⟨rfl, H1.toBelow.drew⟩

section
variable {K : Nat → Prop} {W0 w : World} {L : List Hl} {R : Rd}

theorem zGrow {b nn : Nat} {cs : Array Value} {tt : TypeId} {fz : Nat × Nat} (H : Own K W0 w L) (hb : w.heap[b]? = some (.cells cs tt fz)) (hle : nn ≤ cs.size) (h0 : 0 < nn) (h66 : nn ≤ 66) :
    Calls Tryz.prog 122 #[.slice (some ⟨b, 0, none⟩) nn nn, .int .i64 (nn : Nat)] w fun e w' => ∃ u, e = .returned u ∧ ∃ b' cap' cs', u = .slice (some ⟨b', 0, none⟩) nn cap' ∧ nn ≤ cap' ∧ cs'.size = cap' ∧ Own K W0 w' (L ++ [Hl.one b' (.cells cs' 5 (0, 0))]) := by
  refine bodyW (n := 27) (args := [.slice (some ⟨b, 0, none⟩) nn nn, .int .i64 (nn : Nat)]) Tryz.func122 rfl rfl rfl ?_
  refine c_seqW ?_
  refine c_regionW ?_
  refine s_valW ev_assign ?_
  refine s_nilW ?_
  refine x_norm ?_
  refine c_seqW ?_
  refine c_seqW ?_
  refine c_regionW ?_
  refine s_valW ev_move ?_
  refine s_valW (ev_lt_f rfl rfl (by omega)) ?_
  refine s_nilW ?_
  refine x_norm ?_
  refine c_falseW rfl ?_
  refine c_skipW ?_
  refine x_norm ?_
  refine c_seqW ?_
  refine c_seqW ?_
  refine c_regionW ?_
  refine s_valW ev_move ?_
  refine s_valW ev_move ?_
  refine s_valW (ev_cap_slice rfl Tryz.underlying29) ?_
  refine s_valW ev_move ?_
  refine s_valW (ev_len_slice rfl Tryz.underlying29) ?_
  refine s_valW (ev_subIv (k := 0) rfl rfl (by omega) (by omega) (by omega)) ?_
  refine s_valW (ev_subIv (k := ((nn : Nat) : Int)) rfl rfl (by omega) (by omega) (by omega)) ?_
  refine s_valW ev_assign ?_
  refine s_nilW ?_
  refine x_norm ?_
  refine c_seqW ?_
  refine c_regionW ?_
  refine s_valW ev_move ?_
  refine s_valW (ev_gt_t rfl rfl (by omega)) ?_
  refine s_nilW ?_
  refine x_norm ?_
  refine c_trueW rfl ?_
  refine c_regionW ?_
  refine s_valW ev_move ?_
  refine s_valW ev_move ?_
  refine s_valW (ev_cap_slice rfl Tryz.underlying29) ?_
  refine s_valW (ev_slice_h rfl rfl Tryz.underlying29 Tryz.szT5 (Nat.le_refl _)) ?_
  refine s_valW ev_move ?_
  refine s_effW (d_growZ (sl := nn) (kk := nn) H rfl rfl Tryz.underlying29 Tryz.underlying3 Tryz.infT5 rfl hb hle h0 (by omega) (by omega)) ?_
  rintro _ w1 ⟨b', cap', cs', rfl, hcap, hcs, H1⟩
  refine s_valW ev_move ?_
  refine s_valW (ev_len_slice rfl Tryz.underlying29) ?_
  refine s_valW (ev_slice_h rfl rfl Tryz.underlying29 Tryz.szT5 (by omega)) ?_
  refine s_valW ev_assign ?_
  refine s_nilW ?_
  refine x_norm ?_
  refine c_seqW ?_
  refine c_regionW ?_
  refine s_valW ev_move ?_
  refine s_valW ev_assign ?_
  refine s_nilW ?_
  refine x_norm ?_
  refine c_retW ?_
  exact r_ret rfl rfl ⟨b', cap', cs', rfl, by omega, hcs, H1⟩

theorem zSet {s2 kb sb : Nat} {c : Int} {cv od kv : Value} {bs : List Nat} (H : Own K W0 w [Hl.one s2 (sclO cv od kb (szOf c) (szOf c)), Hl.one kb (.cells (bA (zer (szOf c))) 5 (0, 0))]) (hg : Grp (Kept K W0) c cv od)
    (hs : Kept K W0 sb (.cells #[cv, od, kv] 162 (0, 0))) (hk : BytesR (Kept K W0) kv bs) (hlen : bs.length = szOf c) :
    Calls Tryz.prog 114 #[.pointer (some ⟨s2, 0, none⟩), .iface 159 (.pointer (some ⟨sb, 0, none⟩))] w fun e w' => ∃ u, e = .returned u ∧ (u = .iface 159 (.pointer (some ⟨s2, 0, none⟩)) ∧ ∃ kb2 cap2 cs2,
      Own K W0 w' [Hl.one s2 (sclO cv od kb2 (szOf c) cap2), Hl.one kb2 (.cells cs2 5 (0, 0))] ∧ ∀ (i x : Nat), bs[i]? = some x → cs2[i]? = some (Value.int .u8 (x : Nat))) := by
  have hpos := szOf_pos c
  have hle := szOf_le c
  have hne : bs ≠ [] := fun h => by rw [h] at hlen; simp at hlen; omega
  obtain ⟨vb, vo, vc, vcs, vt, vfz, rfl, hvb, hvx, hvs⟩ := hk.cells hne
  refine bodyW (n := 36) (args := [.pointer (some ⟨s2, 0, none⟩), .iface 159 (.pointer (some ⟨sb, 0, none⟩))]) Tryz.func114 rfl rfl rfl ?_
  refine c_seqW ?_
  refine c_regionW ?_
  refine s_valW ev_assign ?_
  refine s_nilW ?_
  refine x_norm ?_
  refine c_seqW ?_
  refine c_regionW ?_
  refine s_valW ev_move ?_
  refine s_valW (ev_nilCheck rfl) ?_
  refine s_valW (ev_field rfl Tryz.underlying162 rfl Tryz.szT71 rfl) ?_
  refine s_valW ((ev_loadAgg rfl Tryz.underlying71 rfl Tryz.szT71 (H.heap1 0 rfl) (by show 0 + 2 ≤ 3; omega) : Ev Tryz.prog _ _ _ _ (.agg #[cv, od]))) ?_
  refine s_valW ev_move ?_
  refine s_effW (d_call Tryz.call121 (zCvt (hg.mono H.read) (H.read _ _ hs))) ?_
  rintro _ w1 ⟨rfl, B1⟩
  have H1 := H.below B1
  refine s_valW ev_assign ?_
  refine s_nilW ?_
  refine x_norm ?_
  refine c_seqW ?_
  refine b_beginW (by kernel_rfl) (fun w' => w'.heap[s2]? = some (sclO cv od kb (szOf c) (szOf c))) 13 ?_
  have hS : (fun w' => w'.heap[s2]? = some (sclO cv od kb (szOf c) (szOf c))) (World.drew w1) := H1.heap1 0 rfl
  refine b_takeW (calm_then calm_body) hS 0 rfl (by kernel_rfl) (fun _ hS => ev_move) ?_
  refine b_takeW (calm_then calm_body) hS 1 rfl (by kernel_rfl) (fun _ hS => ev_move) ?_
  refine b_takeW (calm_then calm_body) hS 2 rfl (by kernel_rfl) (fun _ hS => ev_nilCheck rfl) ?_
  refine b_takeW (calm_then calm_body) hS 3 rfl (by kernel_rfl) (fun _ hS => ev_field rfl Tryz.underlying162 rfl Tryz.szT29 rfl) ?_
  refine b_takeW (calm_then calm_body) hS 4 rfl (by kernel_rfl) (fun _ hS => (ev_loadH rfl Tryz.underlying29 rfl hS rfl : Ev Tryz.prog _ _ _ _ (.slice (some ⟨kb, 0, none⟩) (szOf c) (szOf c)))) ?_
  refine b_takeW (calm_then calm_body) hS 5 rfl (by kernel_rfl) (fun _ hS => ev_move) ?_
  refine b_takeW (calm_then calm_body) hS 6 rfl (by kernel_rfl) (fun _ hS => ev_nilCheck rfl) ?_
  refine b_takeW (calm_then calm_body) hS 7 rfl (by kernel_rfl) (fun _ hS => ev_field rfl Tryz.underlying162 rfl Tryz.szT71 rfl) ?_
  refine b_takeW (calm_then calm_body) hS 8 rfl (by kernel_rfl) (fun _ hS => (ev_loadAgg rfl Tryz.underlying71 rfl Tryz.szT71 hS (by show 0 + 2 ≤ 3; omega) : Ev Tryz.prog _ _ _ _ (.agg #[cv, od]))) ?_
  refine b_effW 9 rfl (by kernel_rfl) rfl (d_call Tryz.call93 (zByteSize (hg.mono H1.drew.read))) ?_
  rintro _ w2 ⟨rfl, B2⟩
  have H2 := H1.drew.below B2
  have hS : (fun w' => w'.heap[s2]? = some (sclO cv od kb (szOf c) (szOf c))) w2 := Sl.Below.rd B2 _ _ (H1.heap1 0 rfl)
  refine ⟨hS, ?_⟩
  refine b_effW 10 rfl (by kernel_rfl) rfl (d_call Tryz.call122 (zGrow H2 (H2.heap1 1 rfl) (by rw [bA_size, zer_len]; exact Nat.le_refl _) hpos hle)) ?_
  rintro _ w3 ⟨kb2, cap2, cs2, rfl, hcap, hcs, H3⟩
  have H3 : Own K W0 w3 [Hl.one s2 (sclO cv od kb (szOf c) (szOf c)), Hl.one kb (.cells (bA (zer (szOf c))) 5 (0, 0)), Hl.one kb2 (.cells cs2 5 (0, 0))] := H3
  have hS : (fun w' => w'.heap[s2]? = some (sclO cv od kb (szOf c) (szOf c))) w3 := H3.heap1 0 rfl
  refine ⟨hS, ?_⟩
  refine b_stillW (calm_then calm_body) hS 11 rfl (by kernel_rfl) (fun _ => ev_nilCheck rfl) ?_
  refine b_takeW (calm_then calm_body) hS 12 rfl (by kernel_rfl) (fun _ hS => ev_field rfl Tryz.underlying162 rfl Tryz.szT29 rfl) ?_
  refine b_barW rfl (by kernel_rfl) (d_store1 (v := .slice (some ⟨kb2, 0, none⟩) (szOf c) cap2) H3 0 rfl rfl rfl (one_at _ _) Tryz.szT29 rfl (by show (0 + 2 : Nat) < 3; omega)) ?_
  rintro _ w4 H4
  have H4 : Own K W0 w4 [(Hl.one s2 (sclO cv od kb (szOf c) (szOf c))).put s2 (sclO cv od kb2 (szOf c) cap2), Hl.one kb (.cells (bA (zer (szOf c))) 5 (0, 0)), Hl.one kb2 (.cells cs2 5 (0, 0))] := H4
  rw [one_put] at H4
  refine b_endW (by kernel_rfl) ?_
  refine x_norm ?_
  refine c_seqW ?_
  refine b_beginW (by kernel_rfl) (fun w' => w'.heap[s2]? = some (sclO cv od kb2 (szOf c) cap2) ∧ w'.heap[sb]? = some (.cells #[cv, od, .slice (some ⟨vb, vo, none⟩) bs.length vc] 162 (0, 0))) 9 ?_
  have hS : (fun w' => w'.heap[s2]? = some (sclO cv od kb2 (szOf c) cap2) ∧ w'.heap[sb]? = some (.cells #[cv, od, .slice (some ⟨vb, vo, none⟩) bs.length vc] 162 (0, 0))) (World.drew w4) := ⟨H4.heap1 0 rfl, H4.kept hs⟩
  refine b_takeW (calm_then calm_body) hS 0 rfl (by kernel_rfl) (fun _ hS => ev_move) ?_
  refine b_takeW (calm_then calm_body) hS 1 rfl (by kernel_rfl) (fun _ hS => ev_nilCheck rfl) ?_
  refine b_takeW (calm_then calm_body) hS 2 rfl (by kernel_rfl) (fun _ hS => ev_field rfl Tryz.underlying162 rfl Tryz.szT29 rfl) ?_
  refine b_takeW (calm_then calm_body) hS 3 rfl (by kernel_rfl) (fun _ hS => (ev_loadH rfl Tryz.underlying29 rfl hS.1 rfl : Ev Tryz.prog _ _ _ _ (.slice (some ⟨kb2, 0, none⟩) (szOf c) cap2))) ?_
  refine b_takeW (calm_then calm_body) hS 4 rfl (by kernel_rfl) (fun _ hS => ev_move) ?_
  refine b_takeW (calm_then calm_body) hS 5 rfl (by kernel_rfl) (fun _ hS => ev_nilCheck rfl) ?_
  refine b_takeW (calm_then calm_body) hS 6 rfl (by kernel_rfl) (fun _ hS => ev_field rfl Tryz.underlying162 rfl Tryz.szT29 rfl) ?_
  refine b_takeW (calm_then calm_body) hS 7 rfl (by kernel_rfl) (fun _ hS => (ev_loadH rfl Tryz.underlying29 rfl hS.2 rfl : Ev Tryz.prog _ _ _ _ (.slice (some ⟨vb, vo, none⟩) bs.length vc))) ?_
  refine b_effW 8 rfl (by kernel_rfl) rfl (d_copy (dsz := bs.length) H4.drew 2 rfl rfl rfl Tryz.underlying29 Tryz.szT5 (one_at _ _) (H4.drew.kept hvb) (by rw [hlen]; exact Nat.min_self _) hvs (by omega) (by rw [hvx]; exact bA_one bs)) ?_
  rintro _ w5 ⟨_, H5⟩
  rw [hvx] at H5
  have H5 : Own K W0 w5 [Hl.one s2 (sclO cv od kb2 (szOf c) cap2), Hl.one kb (.cells (bA (zer (szOf c))) 5 (0, 0)), (Hl.one kb2 (.cells cs2 5 (0, 0))).put kb2 (.cells (splice cs2 0 (bA bs).toList) 5 (0, 0))] := H5
  rw [one_put] at H5
  have hS : (fun w' => w'.heap[s2]? = some (sclO cv od kb2 (szOf c) cap2) ∧ w'.heap[sb]? = some (.cells #[cv, od, .slice (some ⟨vb, vo, none⟩) bs.length vc] 162 (0, 0))) w5 := ⟨H5.heap1 0 rfl, H5.kept hs⟩
  refine ⟨hS, ?_⟩
  refine b_doneW (by kernel_rfl) ?_
  refine x_norm ?_
  refine c_seqW ?_
  refine c_regionW ?_
  refine s_valW ev_move ?_
  refine s_valW (ev_mkIface Tryz.underlying159 rfl) ?_
  refine s_valW ev_assign ?_
  refine s_nilW ?_
  refine x_norm ?_
  refine c_retW ?_
  refine r_ret rfl rfl ⟨rfl, kb2, cap2, _, H5.sub (List.Sublist.cons_cons _ (List.Sublist.cons _ (List.Sublist.refl _))), fun i x hx => ?_⟩
  have hi : i < bs.length := (List.getElem?_eq_some_iff.1 hx).1
  have hbl : (bA bs).toList.length = bs.length := by rw [Array.length_toList, bA_size]
  rw [splice_get _ _ _ (by rw [hbl]; omega), if_neg (by omega), if_pos (by rw [hbl]; omega), Nat.sub_zero, Array.getElem?_toList]
  exact bA_get hx

theorem zCopy {sb : Nat} {c : Int} {bs : List Nat} (hR : ∀ k o, R k o → wR w k o) (hv : Scl R c (.iface 159 (.pointer (some ⟨sb, 0, none⟩))) bs) :
    Calls Tryz.prog 106 #[.pointer (some ⟨sb, 0, none⟩)] w fun e w' => ∃ u, e = .returned u ∧ (∃ h, Makes w w' h ∧ Scl (Un R h) c u bs) := by
  obtain ⟨sb', cv, od, kv, heq, hs, hg, hk, hlen⟩ := hv
  cases heq
  have hRk : ∀ k o, R k o → Kept (fun k => k < w.heap.size) w k o := fun k o h => kept_begin k o (hR k o h)
  refine bodyW (n := 11) (args := [.pointer (some ⟨sb, 0, none⟩)]) Tryz.func106 rfl rfl rfl ?_
  refine c_seqW ?_
  refine c_regionW ?_
  refine s_valW ev_assign ?_
  refine s_nilW ?_
  refine x_norm ?_
  refine c_seqW ?_
  refine c_regionW ?_
  refine s_valW ev_move ?_
  refine s_valW (ev_nilCheck rfl) ?_
  refine s_valW (ev_field rfl Tryz.underlying162 rfl Tryz.szT71 rfl) ?_
  refine s_valW ((ev_loadAgg rfl Tryz.underlying71 rfl Tryz.szT71 (hR _ _ hs) (by show 0 + 2 ≤ 3; omega) : Ev Tryz.prog _ _ _ _ (.agg #[cv, od]))) ?_
  refine s_effW (d_call Tryz.call92 (zZeroScalar (Own.begin w) (hg.mono hRk))) ?_
  rintro _ w1 ⟨kb, s2, rfl, H1⟩
  have H1 : Own (fun k => k < w.heap.size) w w1 [Hl.one s2 (sclO cv od kb (szOf c) (szOf c)), Hl.one kb (.cells (bA (zer (szOf c))) 5 (0, 0))] := H1.perm (List.Perm.swap _ _ _)
  refine s_valW ev_move ?_
  refine s_valW (ev_mkIface Tryz.underlying159 rfl) ?_
  refine s_effW (d_call Tryz.call114 (zSet H1 (hg.mono hRk) (hRk _ _ hs) (hk.mono hRk) hlen)) ?_
  rintro _ w2 ⟨rfl, kb2, cap2, cs2, H2, hcs⟩
  refine s_valW ev_assign ?_
  refine s_nilW ?_
  refine x_norm ?_
  refine c_retW ?_
  refine r_ret rfl rfl ⟨_, H2.join.toMakes (i := 0) rfl, s2, cv, od, _, rfl, .inr (Hl.or_left (one_at _ _)), hg.mono fun _ _ h => .inl h, ?_, hlen⟩
  have hd : (Hl.one s2 (sclO cv od kb2 (szOf c) cap2)).disj (Hl.one kb2 (.cells cs2 5 (0, 0))) := (List.pairwise_cons.1 H2.apart).1 _ (by simp)
  exact bytesR_at hlen (.inr (Hl.or_right hd (one_at _ _))) hcs
end
end Go.Proofs.YtgikfcmcgpcckaaGreatDoor
