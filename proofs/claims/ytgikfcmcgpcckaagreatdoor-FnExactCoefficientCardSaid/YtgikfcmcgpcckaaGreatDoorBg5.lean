/- Walks through functions of the program: each call comes to what its theorem says. A part of the proofs of FnExactDegree and FnExactCoefficient. -/
import Derived.Test.YtgikfcmcgpcckaaGreatDoorBg4
import Derived.Test.YtgikfcmcgpcckaaGreatDoorSx
namespace Go.Proofs.YtgikfcmcgpcckaaGreatDoor
open Go Go.RowKit Sl

section
variable {K : Nat → Prop} {W0 w : World} {F : List Hl} {hn hr : Hl}
theorem zScan10 (H : Own K W0 w (hn :: hr :: F)) (hw : WH hn) {rb : Nat} {s : ByteArray} {q : Addr} (hb : hr rb = some (rd s 0 (-1))) (E : Eof K W0 q) (hs0 : 0 < s.size) (hs : s.size ≤ 100000) (hd : ∀ (k : Nat) (c : UInt8), s[k]? = some c → 48 ≤ c.toNat ∧ c.toNat ≤ 57) (z : Value) (m0 : Nat) (hz : Nv hn z m0) :
    Calls Tryz.prog 40 #[z, .iface 83 (.pointer (some ⟨rb, 0, none⟩)), .int .i64 10, .bool false] w fun e w' => ∃ u, e = .returned u ∧ ∃ (v n1 n2 : Value) (m : Nat) (hn' hr' : Hl) (pv : Int), u = .tuple #[v, n1, n2, .nilIface] ∧ Own K W0 w' (hn' :: hr' :: F) ∧ Nst hn hn' ∧ hr' rb = some (rd s s.size pv) ∧ Nv hn' v m := by
  obtain ⟨p, cp, rfl⟩ := hz.slice
  refine bodyW (n := 274) (args := [.slice p m0 cp, .iface 83 (.pointer (some ⟨rb, 0, none⟩)), .int .i64 10, .bool false]) Tryz.func40 rfl rfl rfl ?_
  refine c_seqW ?_
  refine c_regionW ?_
  refine s_valW ev_assign ?_
  refine s_valW ev_assign ?_
  refine s_valW ev_assign ?_
  refine s_valW ev_assign ?_
  refine s_nilW ?_
  refine x_norm ?_
  refine c_seqW ?_
  refine c_regionW ?_
  refine s_valW ev_move ?_
  refine s_valW (ev_eq_f rfl rfl (by decide)) ?_
  refine s_valW ev_move ?_
  refine s_valgW rfl rfl ev_move ?_
  refine s_valgW rfl rfl (ev_not rfl) ?_
  refine s_valgW rfl rfl ev_move ?_
  refine s_valgW rfl rfl ev_move ?_
  refine s_valgW rfl rfl (ev_le_t rfl rfl (by decide)) ?_
  refine s_valgW rfl rfl (ev_pick_t rfl) ?_
  refine s_valgW rfl rfl ev_move ?_
  refine s_valgW rfl rfl ev_move ?_
  refine s_valgW rfl rfl (ev_le_t rfl rfl (by decide)) ?_
  refine s_valgW rfl rfl (ev_pick_t rfl) ?_
  refine s_valW (ev_pick_f rfl) ?_
  refine s_valW ev_move ?_
  refine s_skipW rfl rfl rfl ?_
  refine s_skipW rfl rfl rfl ?_
  refine s_skipuW rfl rfl ?_
  refine s_skipuW rfl rfl ?_
  refine s_skipuW rfl rfl ?_
  refine s_skipuW rfl rfl ?_
  refine s_skipuW rfl rfl ?_
  refine s_skipuW rfl rfl ?_
  refine s_skipuW rfl rfl ?_
  refine s_skipuW rfl rfl ?_
  refine s_skipuW rfl rfl ?_
  refine s_skipuW rfl rfl ?_
  refine s_skipuW rfl rfl ?_
  refine s_skipuW rfl rfl ?_
  refine s_skipuW rfl rfl ?_
  refine s_skipuW rfl rfl ?_
  refine s_skipW rfl rfl rfl ?_
  refine s_valW (ev_pick_t rfl) ?_
  refine s_valW ev_assign ?_
  refine s_nilW ?_
  refine x_norm ?_
  refine c_seqW ?_
  refine c_seqW ?_
  refine c_regionW ?_
  refine s_valW ev_move ?_
  refine s_valW (ev_not rfl) ?_
  refine s_nilW ?_
  refine x_norm ?_
  refine c_falseW rfl ?_
  refine c_skipW ?_
  refine x_norm ?_
  refine c_seqW ?_
  refine c_regionW ?_
  refine s_valW ev_assign ?_
  refine s_nilW ?_
  refine x_norm ?_
  refine c_seqW ?_
  refine c_regionW ?_
  refine s_valW ev_assign ?_
  refine s_nilW ?_
  refine x_norm ?_
  refine c_seqW ?_
  refine c_regionW ?_
  refine s_valW ev_move ?_
  refine s_effW (d_invoke (readM rb _) (zReadByte H 1 rfl hb E (by omega) (by omega))) ?_
  rintro _ w1 ⟨hr1, pos1, ⟨b1, ev1, rfl, hcase1⟩, hb1, H1⟩
  have H1 : Own K W0 w1 (hn :: hr1 :: F) := H1
  refine s_valW ev_move ?_
  refine s_valW (ev_extract rfl rfl) ?_
  refine s_valW (ev_extract rfl rfl) ?_
  refine s_valW ev_assign ?_
  refine s_valW ev_assign ?_
  refine s_nilW ?_
  refine x_norm ?_
  refine c_seqW ?_
  refine c_regionW ?_
  refine s_valW ev_move ?_
  refine s_valW ev_assign ?_
  refine s_valW ev_assign ?_
  refine s_nilW ?_
  refine x_norm ?_
  refine c_seqW ?_
  refine c_seqW ?_
  refine c_regionW ?_
  refine s_valW ev_move ?_
  refine s_valW (ev_eq_f rfl rfl (by decide)) ?_
  refine s_nilW ?_
  refine x_norm ?_
  refine c_falseW rfl ?_
  refine c_skipW ?_
  refine x_norm ?_
  refine c_seqW ?_
  refine c_regionW ?_
  refine s_valW ev_move ?_
  refine s_valW (ev_slice_h (j := 0) rfl rfl Tryz.underlying78 Tryz.szT98 (by omega)) ?_
  refine s_valW ev_assign ?_
  refine s_nilW ?_
  refine x_norm ?_
  refine c_seqW ?_
  refine c_regionW ?_
  refine s_valW ev_move ?_
  refine s_valW (ev_convU (i := 10) rfl Tryz.underlying3 Tryz.underlying98 (by decide)) ?_
  refine s_valW ev_assign ?_
  refine s_nilW ?_
  refine x_norm ?_
  refine c_seqW ?_
  refine c_regionW ?_
  refine s_valW ev_assign ?_
  refine s_nilW ?_
  refine x_norm ?_
  refine c_seqW ?_
  refine c_regionW ?_
  refine s_valW ev_assign ?_
  refine s_nilW ?_
  refine x_norm ?_
  refine c_seqW ?_
  refine c_seqW ?_
  refine c_regionW ?_
  refine s_valW ev_move ?_
  refine s_nilW ?_
  refine x_norm ?_
  refine c_blockW ?_
  refine c_seqW ?_
  refine c_regionW ?_
  refine s_valW (ev_eq_f rfl rfl (by decide)) ?_
  refine s_valW ev_assign ?_
  refine s_nilW ?_
  refine x_norm ?_
  refine c_falseW rfl ?_
  refine c_seqW ?_
  refine c_regionW ?_
  refine s_valW (ev_eq_f rfl rfl (by decide)) ?_
  refine s_valW ev_assign ?_
  refine s_nilW ?_
  refine x_norm ?_
  refine c_falseW rfl ?_
  refine c_seqW ?_
  refine c_regionW ?_
  refine s_valW (ev_eq_f rfl rfl (by decide)) ?_
  refine s_valW ev_assign ?_
  refine s_nilW ?_
  refine x_norm ?_
  refine c_falseW rfl ?_
  refine c_regionW ?_
  refine s_valW ev_move ?_
  refine s_effW (d_call Tryz.call41 (zMaxPow _)) ?_
  rintro _ _ ⟨rfl, rfl⟩
  refine s_valW ev_move ?_
  refine s_valW (ev_extract rfl rfl) ?_
  refine s_valW (ev_extract rfl rfl) ?_
  refine s_valW ev_assign ?_
  refine s_valW ev_assign ?_
  refine s_nilW ?_
  refine x_normb ?_
  refine x_norm ?_
  refine c_seqW ?_
  refine c_regionW ?_
  refine s_valW ev_assign ?_
  refine s_nilW ?_
  refine x_norm ?_
  refine c_seqW ?_
  refine c_regionW ?_
  refine s_valW ev_assign ?_
  refine s_nilW ?_
  refine x_norm ?_
  refine c_seqW ?_
  refine c_regionW ?_
  refine s_valW ev_assign ?_
  refine s_nilW ?_
  refine x_norm ?_
  refine c_seqW ?_
  refine c_blockW ?_
  refine c_loopW (α := Nat) (fun k e w' => k ≤ s.size ∧ ∃ (hn' hr' : Hl) (pos m iv : Nat) (v ev : Value) (b pv wv : Int), Own K W0 w' (hn' :: hr' :: F) ∧ Nst hn hn' ∧ hr' rb = some (rd s pos (-1)) ∧ Nv hn' v m ∧ m ≤ k ∧ iv < 19 ∧
    ((k < s.size ∧ ev = .nilIface ∧ (48 ≤ b ∧ b ≤ 57) ∧ pos = k + 1) ∨ (k = s.size ∧ ev = eofV q ∧ pos = s.size)) ∧ pv ≠ 95 ∧ 0 ≤ wv ∧ ∃ e0, e = upd (upd (upd (upd (upd (upd (upd (upd (upd (upd (upd (upd (upd (upd (upd (upd (upd (e0) 0 (v)) 1 (.iface 83 (.pointer (some ⟨rb, 0, none⟩)))) 2 (.int .i64 10)) 3 (.bool false)) 9 (.int .i64 10)) 10 (.int .i64 (k : Nat))) 11 (ev)) 13 (.int .i32 pv)) 14 (.bool false)) 15 (.int .u8 b)) 16 (.int .i64 0)) 17 (.int .u64 ((10 : Nat) : Int))) 18 (.int .u64 10000000000000000000)) 19 (.int .i64 19)) 20 (.int .u64 wv)) 21 (.int .i64 (iv : Nat))) 22 (.int .i64 (-1))) (fun k => s.size - k) 0 (by
    refine ⟨by omega, hn, hr1, pos1, 0, 0, _, ev1, b1, 46, 0, H1, .refl hw, hb1, hz.cut (by omega), by omega, by omega, ?_, by omega, by omega, _, sl17 rfl rfl rfl rfl rfl rfl rfl rfl rfl rfl rfl rfl rfl rfl rfl rfl rfl⟩
    rcases hcase1 with ⟨h1, h2, ⟨c, hc, rfl⟩, h4⟩ | ⟨h1, h2, h4⟩
    · have := hd _ _ hc
      exact .inl ⟨h1, h2, by omega, h4⟩
    · omega) ?_
  rintro k e w2 ⟨hk, hn2, hr2, pos, m, iv, v, ev, b, pv, wv, H2, S2, hb2, hv, hm, hiv, hcase, hpv, hwv, e, rfl⟩
  obtain ⟨pv0, cv0, rfl⟩ := hv.slice
  refine c_seqW ?_
  refine c_seqW ?_
  refine c_regionW ?_
  refine s_valW ev_move ?_
  rcases hcase with ⟨hkl, rfl, hdb, rfl⟩ | ⟨rfl, rfl, rfl⟩
  · refine s_valW (ev_nilNil_eq rfl rfl Tryz.underlying61) ?_
    refine s_nilW ?_
    refine x_norm ?_
    refine c_trueW rfl ?_
    refine c_skipW ?_
    refine x_norm ?_
    refine c_blockW ?_
    refine c_seqW ?_
    refine c_seqW ?_
    refine c_regionW ?_
    refine s_valW ev_move ?_
    refine s_valW (ev_eq_f rfl rfl (by omega)) ?_
    refine s_valW ev_move ?_
    refine s_skipW rfl rfl rfl ?_
    refine s_valW (ev_pick_f rfl) ?_
    refine s_nilW ?_
    refine x_norm ?_
    refine c_falseW rfl ?_
    refine c_seqW ?_
    refine c_regionW ?_
    refine s_valW ev_move ?_
    refine s_valW (ev_eq_f rfl rfl (by omega)) ?_
    refine s_valW ev_move ?_
    refine s_skipW rfl rfl rfl ?_
    refine s_skipW rfl rfl rfl ?_
    refine s_valW (ev_pick_f rfl) ?_
    refine s_nilW ?_
    refine x_norm ?_
    refine c_falseW rfl ?_
    refine c_seqW ?_
    refine c_regionW ?_
    refine s_valW ev_assign ?_
    refine s_nilW ?_
    refine x_norm ?_
    refine c_seqW ?_
    refine c_blockW ?_
    refine c_seqW ?_
    refine c_regionW ?_
    refine s_valW ev_move ?_
    refine s_valW (ev_le_t rfl rfl (by omega)) ?_
    refine s_valW ev_move ?_
    refine s_valgW rfl rfl ev_move ?_
    refine s_valgW rfl rfl (ev_le_t rfl rfl (by omega)) ?_
    refine s_valW (ev_pick_t rfl) ?_
    refine s_valW ev_assign ?_
    refine s_nilW ?_
    refine x_norm ?_
    refine c_trueW rfl ?_
    refine c_regionW ?_
    refine s_valW ev_move ?_
    refine s_valW (ev_subB rfl rfl (by omega) (by omega)) ?_
    refine s_valW (ev_convZ rfl Tryz.underlying5 Tryz.underlying98 (by omega) (by omega)) ?_
    refine s_valW ev_assign ?_
    refine s_nilW ?_
    refine x_normb ?_
    refine x_norm ?_
    refine c_seqW ?_
    refine c_seqW ?_
    refine c_regionW ?_
    refine s_valW ev_move ?_
    refine s_valW ev_move ?_
    refine s_valW (ev_ge_f rfl rfl (by omega)) ?_
    refine s_nilW ?_
    refine x_norm ?_
    refine c_falseW rfl ?_
    refine c_skipW ?_
    refine x_norm ?_
    refine c_seqW ?_
    refine c_regionW ?_
    refine s_valW ev_assign ?_
    refine s_nilW ?_
    refine x_norm ?_
    refine c_seqW ?_
    refine c_regionW ?_
    refine s_valW ev_move ?_
    refine s_valW (ev_addIv (k := ((k + 1 : Nat) : Int)) rfl rfl (by omega) (by omega) (by omega)) ?_
    refine s_valW ev_assign ?_
    refine s_nilW ?_
    refine x_norm ?_
    refine c_seqW ?_
    refine c_regionW ?_
    refine s_valW ev_move ?_
    refine s_valW ev_move ?_
    refine s_valW (ev_mul rfl rfl) ?_
    refine s_valW ev_move ?_
    refine s_valW (ev_add rfl rfl) ?_
    refine s_valW ev_assign ?_
    refine s_nilW ?_
    refine x_norm ?_
    refine c_seqW ?_
    refine c_regionW ?_
    refine s_valW ev_move ?_
    refine s_valW (ev_addIv (k := ((iv + 1 : Nat) : Int)) rfl rfl (by omega) (by omega) (by omega)) ?_
    refine s_valW ev_assign ?_
    refine s_nilW ?_
    refine x_norm ?_
    refine c_seqW ?_
    refine c_regionW ?_
    refine s_valW ev_move ?_
    refine s_valW ev_move ?_
    by_cases hfull : ((iv + 1 : Nat) : Int) = 19
    · refine s_valW (ev_eq_t rfl rfl hfull) ?_
      refine s_nilW ?_
      refine x_norm ?_
      refine c_trueW rfl ?_
      refine c_seqW ?_
      refine c_seqW ?_
      refine c_regionW ?_
      refine s_valW ev_move ?_
      refine s_valW (ev_eq_f rfl rfl (by decide)) ?_
      refine s_nilW ?_
      refine x_norm ?_
      refine c_falseW rfl ?_
      refine c_regionW ?_
      refine s_valW ev_move ?_
      refine s_valW ev_move ?_
      refine s_valW ev_move ?_
      refine s_valW ev_move ?_
      refine s_effW (d_call Tryz.call42 (zMulAddWW H2 0 rfl S2.wh _ _ _ _ m m hv hv ⟨10000000000000000000, by omega, rfl⟩ ⟨_, wrapU_nn _, rfl⟩ (by omega) (by omega))) ?_
      rintro v3 w3 ⟨hn3, m3, hm3, H3, S3, hv3⟩
      have H3 : Own K W0 w3 (hn3 :: hr2 :: F) := H3
      refine s_valW ev_assign ?_
      refine s_nilW ?_
      refine x_norm ?_
      refine c_seqW ?_
      refine c_regionW ?_
      refine s_valW ev_assign ?_
      refine s_nilW ?_
      refine x_norm ?_
      refine c_regionW ?_
      refine s_valW ev_assign ?_
      refine s_nilW ?_
      refine x_norm ?_
      refine c_regionW ?_
      refine s_valW ev_move ?_
      first
        | refine s_effW (d_invoke (readM rb _) (zReadByte H3 1 rfl hb2 E (by omega) (by omega))) ?_
        | refine s_effW (d_invoke (readM rb _) (zReadByte H2 1 rfl hb2 E (by omega) (by omega))) ?_
      rintro _ w4 ⟨hr4, pos4, ⟨b4, ev4, rfl, hcase4⟩, hb4, H4⟩
      have hcase5 : (k + 1 < s.size ∧ ev4 = .nilIface ∧ (48 ≤ b4 ∧ b4 ≤ 57) ∧ pos4 = k + 1 + 1) ∨ (k + 1 = s.size ∧ ev4 = eofV q ∧ pos4 = s.size) := by
        rcases hcase4 with ⟨h1, h2, ⟨c, hc, rfl⟩, h4⟩ | ⟨h1, h2, h4⟩
        · have := hd _ _ hc
          exact .inl ⟨h1, h2, by omega, h4⟩
        · exact .inr ⟨h1, h2, h4⟩
      clear hcase4
      refine s_valW ev_move ?_
      refine s_valW (ev_extract rfl rfl) ?_
      refine s_valW (ev_extract rfl rfl) ?_
      refine s_valW ev_assign ?_
      refine s_valW ev_assign ?_
      refine s_nilW ?_
      refine x_normb ?_
      refine x_norm ?_
      first
        | exact ⟨k + 1, _, rfl, ⟨by omega, hn3, hr4, pos4, _, 0, _, ev4, b4, 48, 0, H4, S2.trans S3, hb4, hv3, by omega, by omega, hcase5, by omega, by omega, _, sl17 rfl rfl rfl rfl rfl rfl rfl rfl rfl rfl rfl rfl rfl rfl rfl rfl rfl⟩, by omega⟩
        | exact ⟨k + 1, _, rfl, ⟨by omega, hn2, hr4, pos4, m, iv + 1, _, ev4, b4, 48, _, H4, S2, hb4, hv, by omega, by omega, hcase5, by omega, wrapU_nn _, _, sl17 rfl rfl rfl rfl rfl rfl rfl rfl rfl rfl rfl rfl rfl rfl rfl rfl rfl⟩, by omega⟩
    · refine s_valW (ev_eq_f rfl rfl hfull) ?_
      refine s_nilW ?_
      refine x_norm ?_
      refine c_falseW rfl ?_
      refine c_skipW ?_
      refine x_norm ?_
      refine c_regionW ?_
      refine s_valW ev_move ?_
      first
        | refine s_effW (d_invoke (readM rb _) (zReadByte H3 1 rfl hb2 E (by omega) (by omega))) ?_
        | refine s_effW (d_invoke (readM rb _) (zReadByte H2 1 rfl hb2 E (by omega) (by omega))) ?_
      rintro _ w4 ⟨hr4, pos4, ⟨b4, ev4, rfl, hcase4⟩, hb4, H4⟩
      have hcase5 : (k + 1 < s.size ∧ ev4 = .nilIface ∧ (48 ≤ b4 ∧ b4 ≤ 57) ∧ pos4 = k + 1 + 1) ∨ (k + 1 = s.size ∧ ev4 = eofV q ∧ pos4 = s.size) := by
        rcases hcase4 with ⟨h1, h2, ⟨c, hc, rfl⟩, h4⟩ | ⟨h1, h2, h4⟩
        · have := hd _ _ hc
          exact .inl ⟨h1, h2, by omega, h4⟩
        · exact .inr ⟨h1, h2, h4⟩
      clear hcase4
      refine s_valW ev_move ?_
      refine s_valW (ev_extract rfl rfl) ?_
      refine s_valW (ev_extract rfl rfl) ?_
      refine s_valW ev_assign ?_
      refine s_valW ev_assign ?_
      refine s_nilW ?_
      refine x_normb ?_
      refine x_norm ?_
      first
        | exact ⟨k + 1, _, rfl, ⟨by omega, hn3, hr4, pos4, _, 0, _, ev4, b4, 48, 0, H4, S2.trans S3, hb4, hv3, by omega, by omega, hcase5, by omega, by omega, _, sl17 rfl rfl rfl rfl rfl rfl rfl rfl rfl rfl rfl rfl rfl rfl rfl rfl rfl⟩, by omega⟩
        | exact ⟨k + 1, _, rfl, ⟨by omega, hn2, hr4, pos4, m, iv + 1, _, ev4, b4, 48, _, H4, S2, hb4, hv, by omega, by omega, hcase5, by omega, wrapU_nn _, _, sl17 rfl rfl rfl rfl rfl rfl rfl rfl rfl rfl rfl rfl rfl rfl rfl rfl rfl⟩, by omega⟩
  · refine s_valW (ev_ifaceNil_eq rfl rfl Tryz.underlying61) ?_
    refine s_nilW ?_
    refine x_norm ?_
    refine c_falseW rfl ?_
    refine c_exitW ?_
    refine x_exit ?_
    refine x_exit ?_
    refine x_exitb ?_
    refine x_norm ?_
    refine c_seqW ?_
    refine c_seqW ?_
    refine c_regionW ?_
    refine s_valW ev_move ?_
    refine s_valW (ev_load rfl Tryz.underlying61 rfl (E.cell H2)) ?_
    refine s_valW (ev_same_eq rfl rfl Tryz.underlying61 Tryz.underlying125 Tryz.cmpT125 Tryz.isT168) ?_
    refine s_nilW ?_
    refine x_norm ?_
    refine c_trueW rfl ?_
    refine c_regionW ?_
    refine s_valW ev_assign ?_
    refine s_nilW ?_
    refine x_norm ?_
    refine c_seqW ?_
    refine c_seqW ?_
    refine c_regionW ?_
    refine s_valW ev_move ?_
    refine s_valW (ev_nilNil_eq rfl rfl Tryz.underlying61) ?_
    refine s_valW ev_move ?_
    refine s_valgW rfl rfl ev_move ?_
    refine s_valgW rfl rfl ev_move ?_
    refine s_valgW rfl rfl ev_move ?_
    refine s_valgW rfl rfl (ev_eq_f rfl rfl hpv) ?_
    refine s_valgW rfl rfl (ev_pick_f rfl) ?_
    refine s_valW (ev_pick_t rfl) ?_
    refine s_nilW ?_
    refine x_norm ?_
    refine c_falseW rfl ?_
    refine c_skipW ?_
    refine x_norm ?_
    refine c_seqW ?_
    refine c_seqW ?_
    refine c_regionW ?_
    refine s_valW ev_move ?_
    refine s_valW (ev_eq_f rfl rfl (by omega)) ?_
    refine s_nilW ?_
    refine x_norm ?_
    refine c_falseW rfl ?_
    refine c_skipW ?_
    refine x_norm ?_
    refine c_seqW ?_
    refine c_seqW ?_
    refine c_regionW ?_
    refine s_valW ev_move ?_
    refine s_valW (ev_eq_f rfl rfl (by decide)) ?_
    refine s_nilW ?_
    refine x_norm ?_
    refine c_falseW rfl ?_
    refine c_seqW ?_
    refine c_regionW ?_
    refine s_valW ev_move ?_
    by_cases hi0 : (iv : Int) > 0
    · refine s_valW (ev_gt_t rfl rfl hi0) ?_
      refine s_nilW ?_
      refine x_norm ?_
      refine c_trueW rfl ?_
      refine c_regionW ?_
      refine s_valW ev_move ?_
      refine s_valW ev_move ?_
      refine s_valW ev_move ?_
      refine s_valW ev_move ?_
      refine s_effW (d_call Tryz.call43 (zPow _ iv _ (wd_nat _) (by omega))) ?_
      rintro vp _ ⟨hvp, rfl⟩
      refine s_valW ev_move ?_
      refine s_effW (d_call Tryz.call42 (zMulAddWW H2 0 rfl S2.wh _ _ _ _ m m hv hv hvp ⟨wv, hwv, rfl⟩ (by omega) (by omega))) ?_
      rintro v3 w3 ⟨hn3, m3, hm3, H3, S3, hv3⟩
      have H3 : Own K W0 w3 (hn3 :: hr2 :: F) := H3
      refine s_valW ev_assign ?_
      refine s_nilW ?_
      refine x_norm ?_
      refine c_seqW ?_
      refine c_regionW ?_
      refine s_valW ev_move ?_
      refine s_valW ev_assign ?_
      refine s_nilW ?_
      refine x_norm ?_
      refine c_seqW ?_
      refine c_seqW ?_
      refine c_regionW ?_
      refine s_valW ev_move ?_
      refine s_valW (ev_ge_f rfl rfl (by decide)) ?_
      refine s_nilW ?_
      refine x_norm ?_
      refine c_falseW rfl ?_
      refine c_skipW ?_
      refine x_norm ?_
      refine c_retW ?_
      first
        | exact r_ret4 rfl rfl rfl rfl rfl ⟨_, _, _, m3, hn3, hr2, -1, rfl, H3, S2.trans S3, hb2, hv3⟩
        | exact r_ret4 rfl rfl rfl rfl rfl ⟨_, _, _, m, hn2, hr2, -1, rfl, H2, S2, hb2, hv⟩
    · refine s_valW (ev_gt_f rfl rfl hi0) ?_
      refine s_nilW ?_
      refine x_norm ?_
      refine c_falseW rfl ?_
      refine c_skipW ?_
      refine x_norm ?_
      refine c_seqW ?_
      refine c_regionW ?_
      refine s_valW ev_move ?_
      refine s_valW ev_assign ?_
      refine s_nilW ?_
      refine x_norm ?_
      refine c_seqW ?_
      refine c_seqW ?_
      refine c_regionW ?_
      refine s_valW ev_move ?_
      refine s_valW (ev_ge_f rfl rfl (by decide)) ?_
      refine s_nilW ?_
      refine x_norm ?_
      refine c_falseW rfl ?_
      refine c_skipW ?_
      refine x_norm ?_
      refine c_retW ?_
      first
        | exact r_ret4 rfl rfl rfl rfl rfl ⟨_, _, _, m3, hn3, hr2, -1, rfl, H3, S2.trans S3, hb2, hv3⟩
        | exact r_ret4 rfl rfl rfl rfl rfl ⟨_, _, _, m, hn2, hr2, -1, rfl, H2, S2, hb2, hv⟩

end
end Go.Proofs.YtgikfcmcgpcckaaGreatDoor
