/- Walks through functions of the program: each call comes to what its theorem says. A part of the proofs of FnExactDegree and FnExactCoefficient. -/
import Derived.Test.YtgikfcmcgpcckaaGreatDoorBg6
namespace Go.Proofs.YtgikfcmcgpcckaaGreatDoor
open Go Go.RowKit Sl

theorem Eof.of_cell {w : World} {q : Addr} (h : w.cell? ⟨0, 0, none⟩ = some (eofV q)) : Eof (fun k => k < w.heap.size) w q := by
  unfold World.cell? at h
  cases hb : w.heap[0]? with
  | none => rw [hb] at h; cases h
  | some o =>
    rw [hb] at h
    cases o with
    | cells cs t fz => exact ⟨cs, t, fz, ⟨lt_of_heap hb, hb⟩, by simpa using h⟩
    | _ => cases h

section
variable {K : Nat → Prop} {W0 w : World} {F : List Hl} {hz hr : Hl}

/-- The number at z is written over; what it comes to is not told. -/
theorem zIntScan10 (H : Own K W0 w (hz :: hr :: F)) {rb zb : Nat} {s : ByteArray} {q : Addr} (hb : hr rb = some (rd s 0 (-1))) (hzb : hz zb = some (.cells #[.bool false, .slice none 0 0] 80 (0, 0))) (E : Eof K W0 q) (hs0 : 0 < s.size) (hs : s.size ≤ 100000) (hd : ∀ (k : Nat) (c : UInt8), s[k]? = some c → 48 ≤ c.toNat ∧ c.toNat ≤ 57) :
    Calls Tryz.prog 38 #[.pointer (some ⟨zb, 0, none⟩), .iface 83 (.pointer (some ⟨rb, 0, none⟩)), .int .i64 10] w fun e w' => ∃ u, e = .returned u ∧ ∃ (n1 : Value) (hr' : Hl) (pv : Int) (L' : List Hl), u = .tuple #[.pointer (some ⟨zb, 0, none⟩), n1, .nilIface] ∧ Own K W0 w' (hr' :: L') ∧ hr' rb = some (rd s s.size pv) := by
  have hc0 : s[0]? = some (s[0]'hs0) := by simp [hs0]
  have hdc := hd _ _ hc0
  refine bodyW (n := 52) (args := [.pointer (some ⟨zb, 0, none⟩), .iface 83 (.pointer (some ⟨rb, 0, none⟩)), .int .i64 10]) Tryz.func38 rfl rfl rfl ?_
  refine c_seqW ?_
  refine c_regionW ?_
  refine s_valW ev_assign ?_
  refine s_valW ev_assign ?_
  refine s_valW ev_assign ?_
  refine s_nilW ?_
  refine x_norm ?_
  refine c_seqW ?_
  refine c_regionW ?_
  refine s_valW ev_move ?_
  refine s_effW (d_call Tryz.call39 (zScanSign H 1 rfl hb E (by omega) hc0 (by omega))) ?_
  rintro _ w1 ⟨rfl, hr1, hb1, H1⟩
  have H1 : Own K W0 w1 (hz :: hr1 :: F) := H1
  have hzc := H1.heap (i := 0) rfl hzb
  refine s_valW ev_move ?_
  refine s_valW (ev_extract rfl rfl) ?_
  refine s_valW (ev_extract rfl rfl) ?_
  refine s_valW ev_assign ?_
  refine s_valW ev_assign ?_
  refine s_nilW ?_
  refine x_norm ?_
  refine c_seqW ?_
  refine c_seqW ?_
  refine c_regionW ?_
  refine s_valW ev_move ?_
  refine s_valW (ev_nilNil_ne rfl rfl Tryz.underlying61) ?_
  refine s_nilW ?_
  refine x_norm ?_
  refine c_falseW rfl ?_
  refine c_skipW ?_
  refine x_norm ?_
  refine c_seqW ?_
  refine c_regionW ?_
  refine s_valW ev_move ?_
  refine s_valW ev_move ?_
  refine s_valW (ev_nilCheck rfl) ?_
  refine s_valW (ev_field rfl Tryz.underlying80 rfl Tryz.szT78 rfl) ?_
  refine s_valW ((ev_loadH rfl Tryz.underlying78 rfl hzc rfl : Ev Tryz.prog _ _ _ _ (.slice none 0 0))) ?_
  refine s_valW ev_move ?_
  refine s_valW ev_move ?_
  have H2 := H1.addEmp
  have H2 : Own K W0 w1 (Hl.emp :: hr1 :: (hz :: F)) := H2.perm (by
    have e1 : (hz :: hr1 :: F) ++ [Hl.emp] = hz :: hr1 :: (F ++ [Hl.emp]) := rfl
    rw [e1]
    refine List.Perm.trans ?_ (List.Perm.swap Hl.emp hr1 (hz :: F))
    refine List.Perm.trans (List.Perm.swap hr1 hz (F ++ [Hl.emp])) (List.Perm.cons _ ?_)
    exact List.perm_append_comm (l₁ := hz :: F) (l₂ := [Hl.emp]))
  refine s_effW (d_call Tryz.call40 (zScan10 H2 .emp hb1 E hs0 hs hd _ 0 (.inl ⟨rfl, rfl⟩))) ?_
  rintro _ w3 ⟨v, n1, n2, m, hn3, hr3, pv, rfl, H3, S3, hb3, hv3⟩
  have hzc3 := H3.heap (i := 2) rfl hzb
  obtain ⟨p3, c3, rfl⟩ := hv3.slice
  refine s_valW ev_move ?_
  refine s_valW (ev_extract rfl rfl) ?_
  refine s_valW (ev_extract rfl rfl) ?_
  refine s_valW (ev_extract rfl rfl) ?_
  refine s_valW (ev_extract rfl rfl) ?_
  refine s_valW (ev_nilCheck rfl) ?_
  refine s_valW (ev_field rfl Tryz.underlying80 rfl Tryz.szT78 rfl) ?_
  refine s_eff0W (d_store1 (v := .slice p3 m c3) H3 2 rfl rfl rfl hzb Tryz.szT78 rfl (by show (0 + 1 : Nat) < 2; omega)) ?_
  rintro _ w4 H4
  have H4 : Own K W0 w4 (hn3 :: hr3 :: hz.put zb (.cells #[.bool false, .slice p3 m c3] 80 (0, 0)) :: F) := H4
  have hzc4 := H4.heap (i := 2) rfl (put_at _ _ _)
  refine s_valW ev_assign ?_
  refine s_valW ev_assign ?_
  refine s_nilW ?_
  refine x_norm ?_
  refine c_seqW ?_
  refine c_seqW ?_
  refine c_regionW ?_
  refine s_valW ev_move ?_
  refine s_valW (ev_nilNil_ne rfl rfl Tryz.underlying61) ?_
  refine s_nilW ?_
  refine x_norm ?_
  refine c_falseW rfl ?_
  refine c_skipW ?_
  refine x_norm ?_
  refine c_seqW ?_
  refine c_regionW ?_
  refine s_valW ev_move ?_
  refine s_valW ev_move ?_
  refine s_valW (ev_nilCheck rfl) ?_
  refine s_valW (ev_field rfl Tryz.underlying80 rfl Tryz.szT78 rfl) ?_
  refine s_valW ((ev_loadH rfl Tryz.underlying78 rfl hzc4 rfl : Ev Tryz.prog _ _ _ _ (.slice p3 m c3))) ?_
  refine s_valW (ev_len_slice rfl Tryz.underlying78) ?_
  by_cases hm0 : (m : Int) > 0
  · refine s_valW (ev_gt_t rfl rfl hm0) ?_
    refine s_valW ev_move ?_
    refine s_valgW rfl rfl ev_move ?_
    refine s_valW (ev_pick_t rfl) ?_
    refine s_valW (ev_nilCheck rfl) ?_
    refine s_valW (ev_field rfl Tryz.underlying80 rfl Tryz.szT4 rfl) ?_
    refine s_eff0W (d_store1 (v := .bool false) H4 2 rfl rfl rfl (put_at _ _ _) Tryz.szT4 rfl (by show (0 + 0 : Nat) < 2; omega)) ?_
    rintro _ w5 H5
    have H6 : Own K W0 w5 (hr3 :: [hn3, (hz.put zb (.cells #[.bool false, .slice p3 m c3] 80 (0, 0))).put zb (.cells #[.bool false, .slice p3 m c3] 80 (0, 0))] ++ F) := Own.perm H5 (List.Perm.swap _ _ _)
    refine s_nilW ?_
    refine x_norm ?_
    refine c_seqW ?_
    refine c_regionW ?_
    refine s_valW ev_move ?_
    refine s_valW ev_move ?_
    refine s_valW ev_assign ?_
    refine s_valW ev_assign ?_
    refine s_valW ev_assign ?_
    refine s_nilW ?_
    refine x_norm ?_
    refine c_retW ?_
    exact r_ret3 rfl rfl rfl rfl ⟨_, hr3, pv, _, rfl, H6, hb3⟩
  · refine s_valW (ev_gt_f rfl rfl hm0) ?_
    refine s_valW ev_move ?_
    refine s_skipW rfl rfl rfl ?_
    refine s_valW (ev_pick_f rfl) ?_
    refine s_valW (ev_nilCheck rfl) ?_
    refine s_valW (ev_field rfl Tryz.underlying80 rfl Tryz.szT4 rfl) ?_
    refine s_eff0W (d_store1 (v := .bool false) H4 2 rfl rfl rfl (put_at _ _ _) Tryz.szT4 rfl (by show (0 + 0 : Nat) < 2; omega)) ?_
    rintro _ w5 H5
    have H6 : Own K W0 w5 (hr3 :: [hn3, (hz.put zb (.cells #[.bool false, .slice p3 m c3] 80 (0, 0))).put zb (.cells #[.bool false, .slice p3 m c3] 80 (0, 0))] ++ F) := Own.perm H5 (List.Perm.swap _ _ _)
    refine s_nilW ?_
    refine x_norm ?_
    refine c_seqW ?_
    refine c_regionW ?_
    refine s_valW ev_move ?_
    refine s_valW ev_move ?_
    refine s_valW ev_assign ?_
    refine s_valW ev_assign ?_
    refine s_valW ev_assign ?_
    refine s_nilW ?_
    refine x_norm ?_
    refine c_retW ?_
    exact r_ret3 rfl rfl rfl rfl ⟨_, hr3, pv, _, rfl, H6, hb3⟩

theorem zSetFrom10 (H : Own K W0 w (hz :: hr :: F)) {rb zb : Nat} {s : ByteArray} {q : Addr} (hb : hr rb = some (rd s 0 (-1))) (hzb : hz zb = some (.cells #[.bool false, .slice none 0 0] 80 (0, 0))) (E : Eof K W0 q) (hs0 : 0 < s.size) (hs : s.size ≤ 100000) (hd : ∀ (k : Nat) (c : UInt8), s[k]? = some c → 48 ≤ c.toNat ∧ c.toNat ≤ 57) :
    Calls Tryz.prog 36 #[.pointer (some ⟨zb, 0, none⟩), .iface 83 (.pointer (some ⟨rb, 0, none⟩)), .int .i64 10] w fun e w' => ∃ u, e = .returned u ∧ u = .tuple #[.pointer (some ⟨zb, 0, none⟩), .bool true] ∧ ∃ L', Own K W0 w' L' := by
  refine bodyW (n := 32) (args := [.pointer (some ⟨zb, 0, none⟩), .iface 83 (.pointer (some ⟨rb, 0, none⟩)), .int .i64 10]) Tryz.func36 rfl rfl rfl ?_
  refine c_seqW ?_
  refine c_regionW ?_
  refine s_valW ev_assign ?_
  refine s_valW ev_assign ?_
  refine s_nilW ?_
  refine x_norm ?_
  refine c_seqW ?_
  refine c_seqW ?_
  refine c_regionW ?_
  refine s_valW ev_move ?_
  refine s_valW ev_move ?_
  refine s_valW ev_move ?_
  refine s_effW (d_call Tryz.call38 (zIntScan10 H hb hzb E hs0 hs hd)) ?_
  rintro _ w1 ⟨n1, hr1, pv, L1, rfl, H1, hb1⟩
  refine s_valW ev_move ?_
  refine s_valW (ev_extract rfl rfl) ?_
  refine s_valW (ev_extract rfl rfl) ?_
  refine s_valW (ev_extract rfl rfl) ?_
  refine s_valW ev_assign ?_
  refine s_valW ev_assign ?_
  refine s_valW ev_assign ?_
  refine s_nilW ?_
  refine x_norm ?_
  refine c_seqW ?_
  refine c_regionW ?_
  refine s_valW ev_move ?_
  refine s_valW (ev_nilNil_ne rfl rfl Tryz.underlying61) ?_
  refine s_nilW ?_
  refine x_norm ?_
  refine c_falseW rfl ?_
  refine c_skipW ?_
  refine x_norm ?_
  refine c_seqW ?_
  refine c_seqW ?_
  refine c_regionW ?_
  refine s_valW ev_move ?_
  refine s_effW (d_invoke (readM rb _) (zReadByte H1 0 rfl hb1 E (by omega) (by omega))) ?_
  rintro _ w2 ⟨hr2, pos2, ⟨b2, ev2, rfl, hcase⟩, hb2, H2⟩
  rcases hcase with ⟨h0, _⟩ | ⟨_, rfl, _⟩
  · omega
  refine s_valW ev_move ?_
  refine s_valW (ev_extract rfl rfl) ?_
  refine s_valW (ev_extract rfl rfl) ?_
  refine s_valW ev_assign ?_
  refine s_valW ev_assign ?_
  refine s_nilW ?_
  refine x_norm ?_
  refine c_seqW ?_
  refine c_regionW ?_
  refine s_valW ev_move ?_
  refine s_valW (ev_load rfl Tryz.underlying61 rfl (E.cell H2)) ?_
  refine s_valW (ev_same_ne rfl rfl Tryz.underlying61 Tryz.underlying125 Tryz.cmpT125 Tryz.isT168) ?_
  refine s_nilW ?_
  refine x_norm ?_
  refine c_falseW rfl ?_
  refine c_skipW ?_
  refine x_norm ?_
  refine c_seqW ?_
  refine c_regionW ?_
  refine s_valW ev_move ?_
  refine s_valW ev_assign ?_
  refine s_valW ev_assign ?_
  refine s_nilW ?_
  refine x_norm ?_
  refine c_retW ?_
  exact r_ret2 rfl rfl rfl ⟨rfl, _, H2⟩

theorem zSetString10 (H : Own K W0 w (hz :: F)) {zb : Nat} {s : ByteArray} {q : Addr} (hzb : hz zb = some (.cells #[.bool false, .slice none 0 0] 80 (0, 0))) (E : Eof K W0 q) (hs0 : 0 < s.size) (hs : s.size ≤ 100000) (hd : ∀ (k : Nat) (c : UInt8), s[k]? = some c → 48 ≤ c.toNat ∧ c.toNat ≤ 57) :
    Calls Tryz.prog 35 #[.pointer (some ⟨zb, 0, none⟩), .string s, .int .i64 10] w fun e w' => ∃ u, e = .returned u ∧ u = .tuple #[.pointer (some ⟨zb, 0, none⟩), .bool true] ∧ ∃ L', Own K W0 w' L' := by
  refine bodyW (n := 16) (args := [.pointer (some ⟨zb, 0, none⟩), .string s, .int .i64 10]) Tryz.func35 rfl rfl rfl ?_
  refine c_seqW ?_
  refine c_regionW ?_
  refine s_valW ev_assign ?_
  refine s_valW ev_assign ?_
  refine s_nilW ?_
  refine x_norm ?_
  refine c_seqW ?_
  refine c_regionW ?_
  refine s_valW ev_move ?_
  refine s_valW ev_move ?_
  refine s_effW (d_call Tryz.call37 (zNewReader H s)) ?_
  rintro _ w1 ⟨rb, rfl, H1⟩
  have H1 : Own K W0 w1 (hz :: Hl.one rb (rd s 0 (-1)) :: F) := H1.perm (List.Perm.cons _ List.perm_append_comm)
  refine s_valW (ev_mkIface Tryz.underlying83 rfl) ?_
  refine s_valW ev_move ?_
  refine s_effW (d_call Tryz.call36 (zSetFrom10 H1 (one_at _ _) hzb E hs0 hs hd)) ?_
  rintro _ w2 ⟨rfl, L2, H2⟩
  refine s_valW (ev_extract rfl rfl) ?_
  refine s_valW (ev_extract rfl rfl) ?_
  refine s_valW ev_assign ?_
  refine s_valW ev_assign ?_
  refine s_nilW ?_
  refine x_norm ?_
  refine c_retW ?_
  exact r_ret2 rfl rfl rfl ⟨rfl, L2, H2⟩

/-- The number at z is written over; what it comes to is not told. -/
theorem zIntScan16 (H : Own K W0 w (hz :: hr :: F)) {rb zb : Nat} {s : ByteArray} {q : Addr} (hb : hr rb = some (rd s 0 (-1))) (hzb : hz zb = some (.cells #[.bool false, .slice none 0 0] 80 (0, 0))) (E : Eof K W0 q) (hs0 : 0 < s.size) (hs : s.size ≤ 100000) (hd : ∀ (k : Nat) (c : UInt8), s[k]? = some c → (48 ≤ c.toNat ∧ c.toNat ≤ 57) ∨ (97 ≤ c.toNat ∧ c.toNat ≤ 102)) :
    Calls Tryz.prog 38 #[.pointer (some ⟨zb, 0, none⟩), .iface 83 (.pointer (some ⟨rb, 0, none⟩)), .int .i64 16] w fun e w' => ∃ u, e = .returned u ∧ ∃ (n1 : Value) (hr' : Hl) (pv : Int) (L' : List Hl), u = .tuple #[.pointer (some ⟨zb, 0, none⟩), n1, .nilIface] ∧ Own K W0 w' (hr' :: L') ∧ hr' rb = some (rd s s.size pv) := by
  have hc0 : s[0]? = some (s[0]'hs0) := by simp [hs0]
  have hdc := hd _ _ hc0
  refine bodyW (n := 52) (args := [.pointer (some ⟨zb, 0, none⟩), .iface 83 (.pointer (some ⟨rb, 0, none⟩)), .int .i64 16]) Tryz.func38 rfl rfl rfl ?_
  refine c_seqW ?_
  refine c_regionW ?_
  refine s_valW ev_assign ?_
  refine s_valW ev_assign ?_
  refine s_valW ev_assign ?_
  refine s_nilW ?_
  refine x_norm ?_
  refine c_seqW ?_
  refine c_regionW ?_
  refine s_valW ev_move ?_
  refine s_effW (d_call Tryz.call39 (zScanSign H 1 rfl hb E (by omega) hc0 (by omega))) ?_
  rintro _ w1 ⟨rfl, hr1, hb1, H1⟩
  have H1 : Own K W0 w1 (hz :: hr1 :: F) := H1
  have hzc := H1.heap (i := 0) rfl hzb
  refine s_valW ev_move ?_
  refine s_valW (ev_extract rfl rfl) ?_
  refine s_valW (ev_extract rfl rfl) ?_
  refine s_valW ev_assign ?_
  refine s_valW ev_assign ?_
  refine s_nilW ?_
  refine x_norm ?_
  refine c_seqW ?_
  refine c_seqW ?_
  refine c_regionW ?_
  refine s_valW ev_move ?_
  refine s_valW (ev_nilNil_ne rfl rfl Tryz.underlying61) ?_
  refine s_nilW ?_
  refine x_norm ?_
  refine c_falseW rfl ?_
  refine c_skipW ?_
  refine x_norm ?_
  refine c_seqW ?_
  refine c_regionW ?_
  refine s_valW ev_move ?_
  refine s_valW ev_move ?_
  refine s_valW (ev_nilCheck rfl) ?_
  refine s_valW (ev_field rfl Tryz.underlying80 rfl Tryz.szT78 rfl) ?_
  refine s_valW ((ev_loadH rfl Tryz.underlying78 rfl hzc rfl : Ev Tryz.prog _ _ _ _ (.slice none 0 0))) ?_
  refine s_valW ev_move ?_
  refine s_valW ev_move ?_
  have H2 := H1.addEmp
  have H2 : Own K W0 w1 (Hl.emp :: hr1 :: (hz :: F)) := H2.perm (by
    have e1 : (hz :: hr1 :: F) ++ [Hl.emp] = hz :: hr1 :: (F ++ [Hl.emp]) := rfl
    rw [e1]
    refine List.Perm.trans ?_ (List.Perm.swap Hl.emp hr1 (hz :: F))
    refine List.Perm.trans (List.Perm.swap hr1 hz (F ++ [Hl.emp])) (List.Perm.cons _ ?_)
    exact List.perm_append_comm (l₁ := hz :: F) (l₂ := [Hl.emp]))
  refine s_effW (d_call Tryz.call40 (zScan16 H2 .emp hb1 E hs0 hs hd _ 0 (.inl ⟨rfl, rfl⟩))) ?_
  rintro _ w3 ⟨v, n1, n2, m, hn3, hr3, pv, rfl, H3, S3, hb3, hv3⟩
  have hzc3 := H3.heap (i := 2) rfl hzb
  obtain ⟨p3, c3, rfl⟩ := hv3.slice
  refine s_valW ev_move ?_
  refine s_valW (ev_extract rfl rfl) ?_
  refine s_valW (ev_extract rfl rfl) ?_
  refine s_valW (ev_extract rfl rfl) ?_
  refine s_valW (ev_extract rfl rfl) ?_
  refine s_valW (ev_nilCheck rfl) ?_
  refine s_valW (ev_field rfl Tryz.underlying80 rfl Tryz.szT78 rfl) ?_
  refine s_eff0W (d_store1 (v := .slice p3 m c3) H3 2 rfl rfl rfl hzb Tryz.szT78 rfl (by show (0 + 1 : Nat) < 2; omega)) ?_
  rintro _ w4 H4
  have H4 : Own K W0 w4 (hn3 :: hr3 :: hz.put zb (.cells #[.bool false, .slice p3 m c3] 80 (0, 0)) :: F) := H4
  have hzc4 := H4.heap (i := 2) rfl (put_at _ _ _)
  refine s_valW ev_assign ?_
  refine s_valW ev_assign ?_
  refine s_nilW ?_
  refine x_norm ?_
  refine c_seqW ?_
  refine c_seqW ?_
  refine c_regionW ?_
  refine s_valW ev_move ?_
  refine s_valW (ev_nilNil_ne rfl rfl Tryz.underlying61) ?_
  refine s_nilW ?_
  refine x_norm ?_
  refine c_falseW rfl ?_
  refine c_skipW ?_
  refine x_norm ?_
  refine c_seqW ?_
  refine c_regionW ?_
  refine s_valW ev_move ?_
  refine s_valW ev_move ?_
  refine s_valW (ev_nilCheck rfl) ?_
  refine s_valW (ev_field rfl Tryz.underlying80 rfl Tryz.szT78 rfl) ?_
  refine s_valW ((ev_loadH rfl Tryz.underlying78 rfl hzc4 rfl : Ev Tryz.prog _ _ _ _ (.slice p3 m c3))) ?_
  refine s_valW (ev_len_slice rfl Tryz.underlying78) ?_
  by_cases hm0 : (m : Int) > 0
  · refine s_valW (ev_gt_t rfl rfl hm0) ?_
    refine s_valW ev_move ?_
    refine s_valgW rfl rfl ev_move ?_
    refine s_valW (ev_pick_t rfl) ?_
    refine s_valW (ev_nilCheck rfl) ?_
    refine s_valW (ev_field rfl Tryz.underlying80 rfl Tryz.szT4 rfl) ?_
    refine s_eff0W (d_store1 (v := .bool false) H4 2 rfl rfl rfl (put_at _ _ _) Tryz.szT4 rfl (by show (0 + 0 : Nat) < 2; omega)) ?_
    rintro _ w5 H5
    have H6 : Own K W0 w5 (hr3 :: [hn3, (hz.put zb (.cells #[.bool false, .slice p3 m c3] 80 (0, 0))).put zb (.cells #[.bool false, .slice p3 m c3] 80 (0, 0))] ++ F) := Own.perm H5 (List.Perm.swap _ _ _)
    refine s_nilW ?_
    refine x_norm ?_
    refine c_seqW ?_
    refine c_regionW ?_
    refine s_valW ev_move ?_
    refine s_valW ev_move ?_
    refine s_valW ev_assign ?_
    refine s_valW ev_assign ?_
    refine s_valW ev_assign ?_
    refine s_nilW ?_
    refine x_norm ?_
    refine c_retW ?_
    exact r_ret3 rfl rfl rfl rfl ⟨_, hr3, pv, _, rfl, H6, hb3⟩
  · refine s_valW (ev_gt_f rfl rfl hm0) ?_
    refine s_valW ev_move ?_
    refine s_skipW rfl rfl rfl ?_
    refine s_valW (ev_pick_f rfl) ?_
    refine s_valW (ev_nilCheck rfl) ?_
    refine s_valW (ev_field rfl Tryz.underlying80 rfl Tryz.szT4 rfl) ?_
    refine s_eff0W (d_store1 (v := .bool false) H4 2 rfl rfl rfl (put_at _ _ _) Tryz.szT4 rfl (by show (0 + 0 : Nat) < 2; omega)) ?_
    rintro _ w5 H5
    have H6 : Own K W0 w5 (hr3 :: [hn3, (hz.put zb (.cells #[.bool false, .slice p3 m c3] 80 (0, 0))).put zb (.cells #[.bool false, .slice p3 m c3] 80 (0, 0))] ++ F) := Own.perm H5 (List.Perm.swap _ _ _)
    refine s_nilW ?_
    refine x_norm ?_
    refine c_seqW ?_
    refine c_regionW ?_
    refine s_valW ev_move ?_
    refine s_valW ev_move ?_
    refine s_valW ev_assign ?_
    refine s_valW ev_assign ?_
    refine s_valW ev_assign ?_
    refine s_nilW ?_
    refine x_norm ?_
    refine c_retW ?_
    exact r_ret3 rfl rfl rfl rfl ⟨_, hr3, pv, _, rfl, H6, hb3⟩

theorem zSetFrom16 (H : Own K W0 w (hz :: hr :: F)) {rb zb : Nat} {s : ByteArray} {q : Addr} (hb : hr rb = some (rd s 0 (-1))) (hzb : hz zb = some (.cells #[.bool false, .slice none 0 0] 80 (0, 0))) (E : Eof K W0 q) (hs0 : 0 < s.size) (hs : s.size ≤ 100000) (hd : ∀ (k : Nat) (c : UInt8), s[k]? = some c → (48 ≤ c.toNat ∧ c.toNat ≤ 57) ∨ (97 ≤ c.toNat ∧ c.toNat ≤ 102)) :
    Calls Tryz.prog 36 #[.pointer (some ⟨zb, 0, none⟩), .iface 83 (.pointer (some ⟨rb, 0, none⟩)), .int .i64 16] w fun e w' => ∃ u, e = .returned u ∧ u = .tuple #[.pointer (some ⟨zb, 0, none⟩), .bool true] ∧ ∃ L', Own K W0 w' L' := by
  refine bodyW (n := 32) (args := [.pointer (some ⟨zb, 0, none⟩), .iface 83 (.pointer (some ⟨rb, 0, none⟩)), .int .i64 16]) Tryz.func36 rfl rfl rfl ?_
  refine c_seqW ?_
  refine c_regionW ?_
  refine s_valW ev_assign ?_
  refine s_valW ev_assign ?_
  refine s_nilW ?_
  refine x_norm ?_
  refine c_seqW ?_
  refine c_seqW ?_
  refine c_regionW ?_
  refine s_valW ev_move ?_
  refine s_valW ev_move ?_
  refine s_valW ev_move ?_
  refine s_effW (d_call Tryz.call38 (zIntScan16 H hb hzb E hs0 hs hd)) ?_
  rintro _ w1 ⟨n1, hr1, pv, L1, rfl, H1, hb1⟩
  refine s_valW ev_move ?_
  refine s_valW (ev_extract rfl rfl) ?_
  refine s_valW (ev_extract rfl rfl) ?_
  refine s_valW (ev_extract rfl rfl) ?_
  refine s_valW ev_assign ?_
  refine s_valW ev_assign ?_
  refine s_valW ev_assign ?_
  refine s_nilW ?_
  refine x_norm ?_
  refine c_seqW ?_
  refine c_regionW ?_
  refine s_valW ev_move ?_
  refine s_valW (ev_nilNil_ne rfl rfl Tryz.underlying61) ?_
  refine s_nilW ?_
  refine x_norm ?_
  refine c_falseW rfl ?_
  refine c_skipW ?_
  refine x_norm ?_
  refine c_seqW ?_
  refine c_seqW ?_
  refine c_regionW ?_
  refine s_valW ev_move ?_
  refine s_effW (d_invoke (readM rb _) (zReadByte H1 0 rfl hb1 E (by omega) (by omega))) ?_
  rintro _ w2 ⟨hr2, pos2, ⟨b2, ev2, rfl, hcase⟩, hb2, H2⟩
  rcases hcase with ⟨h0, _⟩ | ⟨_, rfl, _⟩
  · omega
  refine s_valW ev_move ?_
  refine s_valW (ev_extract rfl rfl) ?_
  refine s_valW (ev_extract rfl rfl) ?_
  refine s_valW ev_assign ?_
  refine s_valW ev_assign ?_
  refine s_nilW ?_
  refine x_norm ?_
  refine c_seqW ?_
  refine c_regionW ?_
  refine s_valW ev_move ?_
  refine s_valW (ev_load rfl Tryz.underlying61 rfl (E.cell H2)) ?_
  refine s_valW (ev_same_ne rfl rfl Tryz.underlying61 Tryz.underlying125 Tryz.cmpT125 Tryz.isT168) ?_
  refine s_nilW ?_
  refine x_norm ?_
  refine c_falseW rfl ?_
  refine c_skipW ?_
  refine x_norm ?_
  refine c_seqW ?_
  refine c_regionW ?_
  refine s_valW ev_move ?_
  refine s_valW ev_assign ?_
  refine s_valW ev_assign ?_
  refine s_nilW ?_
  refine x_norm ?_
  refine c_retW ?_
  exact r_ret2 rfl rfl rfl ⟨rfl, _, H2⟩

theorem zSetString16 (H : Own K W0 w (hz :: F)) {zb : Nat} {s : ByteArray} {q : Addr} (hzb : hz zb = some (.cells #[.bool false, .slice none 0 0] 80 (0, 0))) (E : Eof K W0 q) (hs0 : 0 < s.size) (hs : s.size ≤ 100000) (hd : ∀ (k : Nat) (c : UInt8), s[k]? = some c → (48 ≤ c.toNat ∧ c.toNat ≤ 57) ∨ (97 ≤ c.toNat ∧ c.toNat ≤ 102)) :
    Calls Tryz.prog 35 #[.pointer (some ⟨zb, 0, none⟩), .string s, .int .i64 16] w fun e w' => ∃ u, e = .returned u ∧ u = .tuple #[.pointer (some ⟨zb, 0, none⟩), .bool true] ∧ ∃ L', Own K W0 w' L' := by
  refine bodyW (n := 16) (args := [.pointer (some ⟨zb, 0, none⟩), .string s, .int .i64 16]) Tryz.func35 rfl rfl rfl ?_
  refine c_seqW ?_
  refine c_regionW ?_
  refine s_valW ev_assign ?_
  refine s_valW ev_assign ?_
  refine s_nilW ?_
  refine x_norm ?_
  refine c_seqW ?_
  refine c_regionW ?_
  refine s_valW ev_move ?_
  refine s_valW ev_move ?_
  refine s_effW (d_call Tryz.call37 (zNewReader H s)) ?_
  rintro _ w1 ⟨rb, rfl, H1⟩
  have H1 : Own K W0 w1 (hz :: Hl.one rb (rd s 0 (-1)) :: F) := H1.perm (List.Perm.cons _ List.perm_append_comm)
  refine s_valW (ev_mkIface Tryz.underlying83 rfl) ?_
  refine s_valW ev_move ?_
  refine s_effW (d_call Tryz.call36 (zSetFrom16 H1 (one_at _ _) hzb E hs0 hs hd)) ?_
  rintro _ w2 ⟨rfl, L2, H2⟩
  refine s_valW (ev_extract rfl rfl) ?_
  refine s_valW (ev_extract rfl rfl) ?_
  refine s_valW ev_assign ?_
  refine s_valW ev_assign ?_
  refine s_nilW ?_
  refine x_norm ?_
  refine c_retW ?_
  exact r_ret2 rfl rfl rfl ⟨rfl, L2, H2⟩

theorem zBig10 {q : Addr} {s : ByteArray} (hE : w.cell? ⟨0, 0, none⟩ = some (eofV q)) (hs0 : 0 < s.size) (hs : s.size ≤ 100000) (hd : ∀ (k : Nat) (c : UInt8), s[k]? = some c → 48 ≤ c.toNat ∧ c.toNat ≤ 57) :
    Calls Tryz.prog 33 #[.string s] w fun e w' => ∃ u, e = .returned u ∧ ((∃ b, u = .pointer (some ⟨b, 0, none⟩)) ∧ Below w.heap.size w w') := by
  have E := Eof.of_cell hE
  refine bodyW (n := 15) (args := [.string s]) Tryz.func33 rfl rfl rfl ?_
  refine c_seqW ?_
  refine c_regionW ?_
  refine s_valW ev_assign ?_
  refine s_nilW ?_
  refine x_norm ?_
  refine c_seqW ?_
  refine c_regionW ?_
  refine s_effW (d_alloc (cs := #[.bool false, .slice none 0 0]) (Own.begin w) Tryz.zeroT80 rfl) ?_
  rintro _ w1 ⟨zb, rfl, H1⟩
  have H1 : Own (fun k => k < w.heap.size) w w1 (Hl.one zb (.cells #[.bool false, .slice none 0 0] 80 (0, 0)) :: []) := H1
  refine s_valW ev_move ?_
  refine s_effW (d_call Tryz.call35 (zSetString10 H1 (one_at _ _) E hs0 hs hd)) ?_
  rintro _ w2 ⟨rfl, L2, H2⟩
  refine s_valW ev_move ?_
  refine s_valW (ev_extract rfl rfl) ?_
  refine s_valW (ev_extract rfl rfl) ?_
  refine s_valW ev_assign ?_
  refine s_valW ev_assign ?_
  refine s_nilW ?_
  refine x_norm ?_
  refine c_seqW ?_
  refine c_seqW ?_
  refine c_regionW ?_
  refine s_valW ev_move ?_
  refine s_valW (ev_not rfl) ?_
  refine s_nilW ?_
  refine x_norm ?_
  refine c_falseW rfl ?_
  refine c_skipW ?_
  refine x_norm ?_
  refine c_seqW ?_
  refine c_regionW ?_
  refine s_valW ev_move ?_
  refine s_valW ev_assign ?_
  refine s_nilW ?_
  refine x_norm ?_
  refine c_retW ?_
  exact r_ret rfl rfl ⟨⟨zb, rfl⟩, H2.toBelow⟩

theorem zBig16 {q : Addr} {s : ByteArray} (hE : w.cell? ⟨0, 0, none⟩ = some (eofV q)) (hs0 : 0 < s.size) (hs : s.size ≤ 100000) (hd : ∀ (k : Nat) (c : UInt8), s[k]? = some c → (48 ≤ c.toNat ∧ c.toNat ≤ 57) ∨ (97 ≤ c.toNat ∧ c.toNat ≤ 102)) :
    Calls Tryz.prog 34 #[.string s] w fun e w' => ∃ u, e = .returned u ∧ ((∃ b, u = .pointer (some ⟨b, 0, none⟩)) ∧ Below w.heap.size w w') := by
  have E := Eof.of_cell hE
  refine bodyW (n := 15) (args := [.string s]) Tryz.func34 rfl rfl rfl ?_
  refine c_seqW ?_
  refine c_regionW ?_
  refine s_valW ev_assign ?_
  refine s_nilW ?_
  refine x_norm ?_
  refine c_seqW ?_
  refine c_regionW ?_
  refine s_effW (d_alloc (cs := #[.bool false, .slice none 0 0]) (Own.begin w) Tryz.zeroT80 rfl) ?_
  rintro _ w1 ⟨zb, rfl, H1⟩
  have H1 : Own (fun k => k < w.heap.size) w w1 (Hl.one zb (.cells #[.bool false, .slice none 0 0] 80 (0, 0)) :: []) := H1
  refine s_valW ev_move ?_
  refine s_effW (d_call Tryz.call35 (zSetString16 H1 (one_at _ _) E hs0 hs hd)) ?_
  rintro _ w2 ⟨rfl, L2, H2⟩
  refine s_valW ev_move ?_
  refine s_valW (ev_extract rfl rfl) ?_
  refine s_valW (ev_extract rfl rfl) ?_
  refine s_valW ev_assign ?_
  refine s_valW ev_assign ?_
  refine s_nilW ?_
  refine x_norm ?_
  refine c_seqW ?_
  refine c_seqW ?_
  refine c_regionW ?_
  refine s_valW ev_move ?_
  refine s_valW (ev_not rfl) ?_
  refine s_nilW ?_
  refine x_norm ?_
  refine c_falseW rfl ?_
  refine c_skipW ?_
  refine x_norm ?_
  refine c_seqW ?_
  refine c_regionW ?_
  refine s_valW ev_move ?_
  refine s_valW ev_assign ?_
  refine s_nilW ?_
  refine x_norm ?_
  refine c_retW ?_
  exact r_ret rfl rfl ⟨⟨zb, rfl⟩, H2.toBelow⟩

end
end Go.Proofs.YtgikfcmcgpcckaaGreatDoor
