/- Walks through functions of the program: each call comes to what its theorem says. A part of the proofs of FnExactDegree and FnExactCoefficient. -/
import Derived.Test.YtgikfcmcgpcckaaGreatDoorGp7
import Derived.Test.YtgikfcmcgpcckaaGreatDoorHx
namespace Go.Proofs.YtgikfcmcgpcckaaGreatDoor
open Go Go.RowKit Sl

theorem zCompare {w : World} {v1 v2 : Value} {xs ys : List Nat} (h1 : BytesR (wR w) v1 xs) (h2 : BytesR (wR w) v2 ys) (hx : ∀ b ∈ xs, b < 256) (hy : ∀ b ∈ ys, b < 256) (hn1 : xs ≠ []) (hn2 : ys ≠ []) :
    Calls Tryz.prog 119 #[v1, v2] w fun e w' => ∃ u, e = .returned u ∧ (u = .int .i64 (if xs = ys then 1 else 0) ∧ w' = w) := by
  refine bodyW (n := 10) (args := [v1, v2]) Tryz.func119 rfl rfl rfl ?_
  refine c_seqW ?_
  refine c_regionW ?_
  refine s_valW ev_assign ?_
  refine s_nilW ?_
  refine x_norm ?_
  refine c_seqW ?_
  refine c_seqW ?_
  refine c_regionW ?_
  refine s_valW ev_move ?_
  refine s_valW (ev_convBytes rfl h1 hn1 Tryz.underlying29 Tryz.underlying5 Tryz.underlying9) ?_
  refine s_valW ev_move ?_
  refine s_valW (ev_convBytes rfl h2 hn2 Tryz.underlying29 Tryz.underlying5 Tryz.underlying9) ?_
  refine s_valW (ev_eqStr rfl rfl hx hy) ?_
  refine s_nilW ?_
  refine x_norm ?_
  refine c_ifW rfl (fun h => ?_) (fun h => ?_)
  · refine c_seqW ?_
    refine c_regionW ?_
    refine s_valW ev_assign ?_
    refine s_nilW ?_
    refine x_norm ?_
    refine c_retW ?_
    refine x_ret ?_
    exact r_ret rfl rfl ⟨by rw [if_pos h]; rfl, rfl⟩
  · refine c_skipW ?_
    refine x_norm ?_
    refine c_seqW ?_
    refine c_regionW ?_
    refine s_valW ev_assign ?_
    refine s_nilW ?_
    refine x_norm ?_
    refine c_retW ?_
    exact r_ret rfl rfl ⟨by rw [if_neg h]; rfl, rfl⟩

theorem zeroB_zer (bs : List Nat) : zeroB bs = decide (bs = zer bs.length) := by
  unfold zeroB zer
  by_cases h : bs = List.replicate bs.length 0
  · rw [decide_eq_true h]
    refine List.all_eq_true.2 fun x hx => ?_
    rw [h] at hx
    rw [List.eq_of_mem_replicate hx]; rfl
  · rw [decide_eq_false h]
    refine Bool.eq_false_iff.2 fun h2 => h (List.eq_replicate_iff.2 ⟨rfl, fun x hx => ?_⟩)
    simpa using List.all_eq_true.1 h2 x hx
theorem zer_lt (n : Nat) : ∀ b ∈ zer n, b < 256 := fun b hb => by rw [List.eq_of_mem_replicate hb]; omega
theorem bytes_zer {R : Rd} {b n k : Nat} {fz : Nat × Nat} {t : TypeId} (h : R b (.cells (bA (zer n)) t fz)) : BytesR R (.slice (some ⟨b, 0, none⟩) n k) (zer n) := bytesR_at (zer_len n) h (fun _ _ h => bA_get h)

theorem zIsZeroS {w : World} {sb : Nat} {c : Int} {bs : List Nat} (hv : Scl (wR w) c (.iface 159 (.pointer (some ⟨sb, 0, none⟩))) bs) (hb : ∀ b ∈ bs, b < 256) :
    Calls Tryz.prog 110 #[.pointer (some ⟨sb, 0, none⟩)] w fun e w' => ∃ u, e = .returned u ∧ (u = .bool (zeroB bs) ∧ Below w.heap.size w w') := by
  obtain ⟨sb', cv, od, kv, heq, hs, hg, hk, hlen⟩ := hv
  cases heq
  have hle := szOf_le c
  have hpos := szOf_pos c
  have hne : bs ≠ [] := fun h => by rw [h] at hlen; simp at hlen; omega
  obtain ⟨vb, vo, vc, vcs, vt, vfz, rfl, hvb, hvx, hvs⟩ := hk.cells hne
  refine bodyW (n := 15) (args := [.pointer (some ⟨sb, 0, none⟩)]) Tryz.func110 rfl rfl rfl ?_
  refine c_seqW ?_
  refine c_regionW ?_
  refine s_valW ev_assign ?_
  refine s_nilW ?_
  refine x_norm ?_
  refine c_seqW ?_
  refine b_beginW (by kernel_rfl) (Hold w) 13 ?_
  have hS : (Hold w) (World.drew w) := hold_drew
  refine b_takeW (calm_then calm_body) hS 0 rfl (by kernel_rfl) (fun _ hS => ev_move) ?_
  refine b_takeW (calm_then calm_body) hS 1 rfl (by kernel_rfl) (fun _ hS => ev_nilCheck rfl) ?_
  refine b_takeW (calm_then calm_body) hS 2 rfl (by kernel_rfl) (fun _ hS => ev_field rfl Tryz.underlying162 rfl Tryz.szT29 rfl) ?_
  refine b_takeW (calm_then calm_body) hS 3 rfl (by kernel_rfl) (fun _ hS => (ev_loadH rfl Tryz.underlying29 rfl (hS.block hs) rfl : Ev Tryz.prog _ _ _ _ (.slice (some ⟨vb, vo, none⟩) bs.length vc))) ?_
  refine b_takeW (calm_then calm_body) hS 4 rfl (by kernel_rfl) (fun _ hS => ev_move) ?_
  refine b_takeW (calm_then calm_body) hS 5 rfl (by kernel_rfl) (fun _ hS => ev_nilCheck rfl) ?_
  refine b_takeW (calm_then calm_body) hS 6 rfl (by kernel_rfl) (fun _ hS => ev_field rfl Tryz.underlying162 rfl Tryz.szT71 rfl) ?_
  refine b_takeW (calm_then calm_body) hS 7 rfl (by kernel_rfl) (fun _ hS => (ev_loadAgg rfl Tryz.underlying71 rfl Tryz.szT71 (hS.block hs) (by show 0 + 2 ≤ 3; omega) : Ev Tryz.prog _ _ _ _ (.agg #[cv, od]))) ?_
  refine b_effW 8 rfl (by kernel_rfl) rfl (d_call Tryz.call93 (zByteSize (w := w.drew) hg)) ?_
  rintro _ w2 ⟨rfl, B2⟩
  have H2 := ((Own.begin w).drew).below B2
  have hS : (Hold w) w2 := hS.below B2
  refine ⟨hS, ?_⟩
  refine b_effW 9 rfl (by kernel_rfl) rfl (d_make (nn := szOf c) H2 rfl rfl Tryz.underlying29 Tryz.infT5 rfl (by omega) (by omega)) ?_
  rintro _ w3 ⟨kb, rfl, H3⟩
  rw [rep_bA] at H3
  have hkz : BytesR (wR w3) (.slice (some ⟨kb, 0, none⟩) (szOf c) (szOf c)) (zer (szOf c)) := bytes_zer (H3.heap1 0 rfl)
  have hS : (Hold w) w3 := ⟨H3.toBelow.size, fun b hb => H3.toBelow.block b hb⟩
  refine ⟨hS, ?_⟩
  refine b_effW 10 rfl (by kernel_rfl) rfl (d_call Tryz.call119 (zCompare (hk.mono (Sl.Below.rd H3.toBelow)) hkz hb (zer_lt _) hne (fun h => by have := congrArg List.length h; rw [zer_len] at this; simp at this; omega))) ?_
  rintro _ w4 ⟨rfl, rfl⟩
  have hS : (Hold w) w4 := hS
  refine ⟨hS, ?_⟩
  refine b_takeW (calm_then calm_body) hS 11 rfl (by kernel_rfl) (fun _ hS => ev_eq rfl rfl) ?_
  refine b_takeW (calm_then calm_body) hS 12 rfl (by kernel_rfl) (fun _ hS => ev_assign) ?_
  refine b_doneW (by kernel_rfl) ?_
  refine x_norm ?_
  refine c_retW ?_
  refine r_ret rfl rfl ⟨?_, H3.toBelow⟩
  show Value.bool (decide ((if bs = zer (szOf c) then (1 : Int) else 0) = 1)) = _
  rw [zeroB_zer, hlen]
  by_cases h : bs = zer (szOf c)
  · rw [if_pos h, decide_eq_true h]; rfl
  · rw [if_neg h, decide_eq_false h]; rfl

theorem take_bytes {cs : Array Value} {bs : List Nat} (h : cs.toList.take bs.length = [] ++ (bA bs).toList) : ∀ (i x : Nat), bs[i]? = some x → cs[i]? = some (Value.int .u8 (x : Nat)) := by
  intro i x hx
  have hi : i < bs.length := (List.getElem?_eq_some_iff.1 hx).1
  have h1 : (cs.toList.take bs.length)[i]? = cs[i]? := by rw [List.getElem?_take, if_pos hi]; simp
  rw [← h1, h, List.nil_append, Array.getElem?_toList]
  exact bA_get hx

theorem zClone {w : World} {v : Value} {bs : List Nat} (hv : BytesR (wR w) v bs) (hne : bs ≠ []) (hm : bs.length ≤ 66) :
    Calls Tryz.prog 120 #[v] w fun e w' => ∃ u, e = .returned u ∧ (BytesR (wR w') u bs ∧ Below w.heap.size w w') := by
  obtain ⟨vb, vo, vc, vcs, vt, vfz, rfl, hvb, hvx, hvs⟩ := hv.cells hne
  have hpos : 0 < bs.length := List.length_pos_iff.2 hne
  refine bodyW (n := 8) (args := [.slice (some ⟨vb, vo, none⟩) bs.length vc]) Tryz.func120 rfl rfl rfl ?_
  refine c_seqW ?_
  refine c_regionW ?_
  refine s_valW ev_assign ?_
  refine s_nilW ?_
  refine x_norm ?_
  refine c_seqW ?_
  refine c_seqW ?_
  refine c_regionW ?_
  refine s_valW ev_move ?_
  refine s_valW (ev_eqSliceNil rfl rfl Tryz.underlying29) ?_
  refine s_nilW ?_
  refine x_norm ?_
  refine c_falseW rfl ?_
  refine c_skipW ?_
  refine x_norm ?_
  refine c_seqW ?_
  refine c_regionW ?_
  refine s_effW (d_buildSlice (len := 0) (el := 5) (cs := #[]) (Own.begin w) (by kernel_rfl)) ?_
  rintro _ w1 ⟨b0, rfl, H1⟩
  refine s_valW ev_move ?_
  refine s_effW (d_append (nn := bs.length) (dl := 0) (olds := []) H1 0 rfl rfl rfl Tryz.underlying29 Tryz.infT5 (.inr ⟨b0, #[], rfl, one_at _ _, rfl, Nat.le_refl _, rfl⟩) (Sl.Below.rd H1.toBelow _ _ hvb) hvs (by rw [hvx]; exact bA_one bs) rfl hpos (by omega) (by omega)) ?_
  rintro _ w2 ⟨b', cap', cs', h', rfl, H2, G⟩
  have Ga := G.all
  rw [hvx, Nat.zero_add] at Ga
  have hb' : h' b' = some (.cells cs' 5 (0, 0)) := by rw [G.put]; exact put_at _ _ _
  refine s_valW ev_assign ?_
  refine s_nilW ?_
  refine x_norm ?_
  refine c_retW ?_
  exact r_ret rfl rfl ⟨bytesR_at (Nat.zero_add _).symm (H2.heap (i := 0) rfl hb') (take_bytes Ga), H2.toBelow⟩

theorem zMarshal {w : World} {sb : Nat} {c : Int} {bs : List Nat} (hv : Scl (wR w) c (.iface 159 (.pointer (some ⟨sb, 0, none⟩))) bs) :
    Calls Tryz.prog 111 #[.pointer (some ⟨sb, 0, none⟩)] w fun e w' => ∃ u, e = .returned u ∧ ((∃ u1, u = .tuple #[u1, .nilIface] ∧ BytesR (wR w') u1 bs) ∧ Below w.heap.size w w') := by
  obtain ⟨sb', cv, od, kv, heq, hs, hg, hk, hlen⟩ := hv
  cases heq
  have hle := szOf_le c
  have hpos := szOf_pos c
  have hne : bs ≠ [] := fun h => by rw [h] at hlen; simp at hlen; omega
  refine bodyW (n := 9) (args := [.pointer (some ⟨sb, 0, none⟩)]) Tryz.func111 rfl rfl rfl ?_
  refine c_seqW ?_
  refine c_regionW ?_
  refine s_valW ev_assign ?_
  refine s_valW ev_assign ?_
  refine s_nilW ?_
  refine x_norm ?_
  refine c_seqW ?_
  refine c_regionW ?_
  refine s_valW ev_move ?_
  refine s_valW (ev_nilCheck rfl) ?_
  refine s_valW (ev_field rfl Tryz.underlying162 rfl Tryz.szT29 rfl) ?_
  refine s_valW ((ev_loadH rfl Tryz.underlying29 rfl hs rfl : Ev Tryz.prog _ _ _ _ kv)) ?_
  refine s_effW (d_call Tryz.call120 (zClone hk hne (by omega))) ?_
  rintro u1 w1 ⟨hu, B1⟩
  refine s_valW ev_assign ?_
  refine s_valW ev_assign ?_
  refine s_nilW ?_
  refine x_norm ?_
  refine c_retW ?_
  exact r_ret2 rfl rfl rfl ⟨⟨u1, rfl, hu⟩, B1⟩

theorem marshalM (b : Nat) (w : World) : (callMethod (.iface 159 (.pointer (some ⟨b, 0, none⟩))) "MarshalBinary" #[]).run Tryz.prog w = .ok (.enter 111 #[.pointer (some ⟨b, 0, none⟩)]) w := by kernel_rfl
theorem copyM (b : Nat) (w : World) : (callMethod (.iface 159 (.pointer (some ⟨b, 0, none⟩))) "Copy" #[]).run Tryz.prog w = .ok (.enter 106 #[.pointer (some ⟨b, 0, none⟩)]) w := by kernel_rfl
theorem isZeroM (b : Nat) (w : World) : (callMethod (.iface 159 (.pointer (some ⟨b, 0, none⟩))) "IsZero" #[]).run Tryz.prog w = .ok (.enter 110 #[.pointer (some ⟨b, 0, none⟩)]) w := by kernel_rfl

theorem zBytesOf {w : World} {v : Value} {c : Int} {bs : List Nat} (hv : Scl (wR w) c v bs) :
    Calls Tryz.prog 18 #[v] w fun e w' => ∃ u, e = .returned u ∧ (BytesR (wR w') u bs ∧ Below w.heap.size w w') := by
  have hv' := hv
  obtain ⟨sb, cv, od, kv, rfl, hs, hg, hk, hlen⟩ := hv'
  have hle := szOf_le c
  have hpos := szOf_pos c
  have hne : bs ≠ [] := fun h => by rw [h] at hlen; simp at hlen; omega
  refine bodyW (n := 13) (args := [.iface 159 (.pointer (some ⟨sb, 0, none⟩))]) Tryz.func18 rfl rfl rfl ?_
  refine c_seqW ?_
  refine c_regionW ?_
  refine s_valW ev_assign ?_
  refine s_nilW ?_
  refine x_norm ?_
  refine c_seqW ?_
  refine c_regionW ?_
  refine s_valW ev_move ?_
  refine s_effW (d_invoke (marshalM sb _) (zMarshal hv)) ?_
  rintro _ w1 ⟨⟨u1, rfl, hu⟩, B1⟩
  obtain ⟨vb, vo, vc, vcs, vt, vfz, rfl, hvb, hvx, hvs⟩ := hu.cells hne
  refine s_valW ev_move ?_
  refine s_valW (ev_extract rfl rfl) ?_
  refine s_valW (ev_extract rfl rfl) ?_
  refine s_valW ev_assign ?_
  refine s_valW ev_assign ?_
  refine s_nilW ?_
  refine x_norm ?_
  refine c_seqW ?_
  refine c_regionW ?_
  refine s_effW (d_buildSlice (len := 0) (el := 5) (cs := #[]) (Own.begin w1) (by kernel_rfl)) ?_
  rintro _ w2 ⟨b0, rfl, H1⟩
  refine s_valW ev_move ?_
  refine s_effW (d_append (nn := bs.length) (dl := 0) (olds := []) H1 0 rfl rfl rfl Tryz.underlying29 Tryz.infT5 (.inr ⟨b0, #[], rfl, one_at _ _, rfl, Nat.le_refl _, rfl⟩) (Sl.Below.rd H1.toBelow _ _ hvb) hvs (by rw [hvx]; exact bA_one bs) rfl (by omega) (by omega) (by omega)) ?_
  rintro _ w3 ⟨b', cap', cs', h', rfl, H2, G⟩
  have Ga := G.all
  rw [hvx, Nat.zero_add] at Ga
  have hb' : h' b' = some (.cells cs' 5 (0, 0)) := by rw [G.put]; exact put_at _ _ _
  refine s_valW ev_assign ?_
  refine s_nilW ?_
  refine x_norm ?_
  refine c_retW ?_
  exact r_ret rfl rfl ⟨bytesR_at (Nat.zero_add _).symm (H2.heap (i := 0) rfl hb') (take_bytes Ga), Sl.Below.trans' B1 H2.toBelow⟩
end Go.Proofs.YtgikfcmcgpcckaaGreatDoor
