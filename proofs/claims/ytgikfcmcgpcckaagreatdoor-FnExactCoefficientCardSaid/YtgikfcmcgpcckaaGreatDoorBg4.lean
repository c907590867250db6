/- Walks through functions of the program: each call comes to what its theorem says. A part of the proofs of FnExactDegree and FnExactCoefficient. -/
import Derived.Test.YtgikfcmcgpcckaaGreatDoorBg3
namespace Go.Proofs.YtgikfcmcgpcckaaGreatDoor
open Go Go.RowKit Sl

theorem Tryz.cmpT125 : (Tryz.prog.info? 125).map (fun ti => ti.comparable) = some true := by kernel_rfl
theorem Tryz.isT168 : (Tryz.prog.info? 168).isSome = true := by kernel_rfl

/-- A reader of strings. -/
def rd (s : ByteArray) (pos : Nat) (prev : Int) : Obj := .cells #[.string s, .int .i64 (pos : Nat), .int .i64 prev] 92 (0, 0)
def eofV (q : Addr) : Value := .iface 125 (.pointer (some q))
def Eof (K : Nat → Prop) (W0 : World) (q : Addr) : Prop := ∃ cs t fz, Kept K W0 0 (.cells cs t fz) ∧ cs[0]? = some (eofV q)

section
variable {K : Nat → Prop} {W0 w : World} {L : List Hl} {i : Nat} {h : Hl}

theorem Eof.cell {q : Addr} (E : Eof K W0 q) (H : Own K W0 w L) : w.cell? ⟨0, 0, none⟩ = some (eofV q) := by
  obtain ⟨cs, t, fz, h1, h2⟩ := E
  exact cell_of (H.kept h1) h2

/-- What a byte that is read comes to. -/
def Got (s : ByteArray) (q : Addr) (pos : Nat) (u : Value) (pos' : Nat) : Prop :=
  ∃ b ev, u = .tuple #[.int .u8 b, ev] ∧ ((pos < s.size ∧ ev = .nilIface ∧ (∃ c, s[pos]? = some c ∧ b = (c.toNat : Nat)) ∧ pos' = pos + 1) ∨ (pos = s.size ∧ ev = eofV q ∧ pos' = s.size))

theorem zReadByte (H : Own K W0 w L) (i : Nat) (hi : L[i]? = some h) {rb pos : Nat} {s : ByteArray} {prev : Int} {q : Addr} (hb : h rb = some (rd s pos prev)) (E : Eof K W0 q) (hp : pos ≤ s.size) (hs : s.size ≤ 1000000) :
    Calls Tryz.prog 98 #[.pointer (some ⟨rb, 0, none⟩)] w fun e w' => ∃ u, e = .returned u ∧ ∃ h' pos', Got s q pos u pos' ∧ h' rb = some (rd s pos' (-1)) ∧ Own K W0 w' (L.set i h') := by
  refine bodyW (n := 36) (args := [.pointer (some ⟨rb, 0, none⟩)]) Tryz.func98 rfl rfl rfl ?_
  by_cases hlt : pos < s.size
  · have hc : s[pos]? = some (s[pos]'hlt) := by simp [hlt]
    refine c_seqW ?_
    refine c_regionW ?_
    refine s_valW ev_assign ?_
    refine s_valW ev_assign ?_
    refine s_nilW ?_
    refine x_norm ?_
    refine c_seqW ?_
    refine c_regionW ?_
    refine s_valW ev_move ?_
    refine s_valW (ev_nilCheck rfl) ?_
    refine s_valW (ev_field rfl Tryz.underlying92 rfl Tryz.szT3 rfl) ?_
    refine s_eff0W (d_store1 (v := .int .i64 (-1)) H i hi rfl rfl hb Tryz.szT3 rfl (by show (0 + 2 : Nat) < 3; omega)) ?_
    rintro _ w1 H1
    have H1 : Own K W0 w1 (L.set i (h.put rb (rd s pos (-1)))) := H1
    have hi1 := set_get hi (h.put rb (rd s pos (-1)))
    have hblk := H1.heap hi1 (put_at _ _ _)
    refine s_nilW ?_
    refine x_norm ?_
    refine c_seqW ?_
    refine c_seqW ?_
    refine b_beginW (by kernel_rfl) (Hold w1) 10 ?_
    have hS : (Hold w1) (World.drew w1) := hold_drew
    refine b_takeW (calm_then (calm_then calm_body)) hS 0 rfl (by kernel_rfl) (fun _ hS => ev_move) ?_
    refine b_takeW (calm_then (calm_then calm_body)) hS 1 rfl (by kernel_rfl) (fun _ hS => ev_nilCheck rfl) ?_
    refine b_takeW (calm_then (calm_then calm_body)) hS 2 rfl (by kernel_rfl) (fun _ hS => ev_field rfl Tryz.underlying92 rfl Tryz.szT2 rfl) ?_
    refine b_takeW (calm_then (calm_then calm_body)) hS 3 rfl (by kernel_rfl) (fun _ hS => (ev_loadH rfl Tryz.underlying2 rfl (hS.block hblk) rfl : Ev Tryz.prog _ _ _ _ (.int .i64 (pos : Nat)))) ?_
    refine b_takeW (calm_then (calm_then calm_body)) hS 4 rfl (by kernel_rfl) (fun _ hS => ev_move) ?_
    refine b_takeW (calm_then (calm_then calm_body)) hS 5 rfl (by kernel_rfl) (fun _ hS => ev_nilCheck rfl) ?_
    refine b_takeW (calm_then (calm_then calm_body)) hS 6 rfl (by kernel_rfl) (fun _ hS => ev_field rfl Tryz.underlying92 rfl Tryz.szT9 rfl) ?_
    refine b_takeW (calm_then (calm_then calm_body)) hS 7 rfl (by kernel_rfl) (fun _ hS => (ev_loadH rfl Tryz.underlying9 rfl (hS.block hblk) rfl : Ev Tryz.prog _ _ _ _ (.string s))) ?_
    refine b_takeW (calm_then (calm_then calm_body)) hS 8 rfl (by kernel_rfl) (fun _ hS => ev_len_string rfl Tryz.underlying9) ?_
    refine b_takeW (calm_then (calm_then calm_body)) hS 9 rfl (by kernel_rfl) (fun _ hS => ev_ge_f rfl rfl (by omega)) ?_
    refine b_doneW (by kernel_rfl) ?_
    refine x_norm ?_
    refine c_falseW rfl ?_
    refine c_skipW ?_
    refine x_norm ?_
    refine c_seqW ?_
    refine b_beginW (by kernel_rfl) (Hold w1.drew) 10 ?_
    have hS : (Hold w1.drew) (World.drew w1.drew) := hold_drew
    refine b_takeW (calm_then calm_body) hS 0 rfl (by kernel_rfl) (fun _ hS => ev_move) ?_
    refine b_takeW (calm_then calm_body) hS 1 rfl (by kernel_rfl) (fun _ hS => ev_nilCheck rfl) ?_
    refine b_takeW (calm_then calm_body) hS 2 rfl (by kernel_rfl) (fun _ hS => ev_field rfl Tryz.underlying92 rfl Tryz.szT9 rfl) ?_
    refine b_takeW (calm_then calm_body) hS 3 rfl (by kernel_rfl) (fun _ hS => (ev_loadH rfl Tryz.underlying9 rfl (hS.block hblk) rfl : Ev Tryz.prog _ _ _ _ (.string s))) ?_
    refine b_takeW (calm_then calm_body) hS 4 rfl (by kernel_rfl) (fun _ hS => ev_move) ?_
    refine b_takeW (calm_then calm_body) hS 5 rfl (by kernel_rfl) (fun _ hS => ev_nilCheck rfl) ?_
    refine b_takeW (calm_then calm_body) hS 6 rfl (by kernel_rfl) (fun _ hS => ev_field rfl Tryz.underlying92 rfl Tryz.szT2 rfl) ?_
    refine b_takeW (calm_then calm_body) hS 7 rfl (by kernel_rfl) (fun _ hS => (ev_loadH rfl Tryz.underlying2 rfl (hS.block hblk) rfl : Ev Tryz.prog _ _ _ _ (.int .i64 (pos : Nat)))) ?_
    refine b_takeW (calm_then calm_body) hS 8 rfl (by kernel_rfl) (fun _ hS => ev_indexStr rfl rfl Tryz.underlying9 hc) ?_
    refine b_takeW (calm_then calm_body) hS 9 rfl (by kernel_rfl) (fun _ hS => ev_assign) ?_
    refine b_doneW (by kernel_rfl) ?_
    refine x_norm ?_
    refine c_seqW ?_
    refine c_regionW ?_
    refine s_valW ev_move ?_
    refine s_valW (ev_nilCheck rfl) ?_
    have hblk2 := H1.drew.drew.heap hi1 (put_at _ _ _)
    refine s_valW (ev_field rfl Tryz.underlying92 rfl Tryz.szT2 rfl) ?_
    refine s_valW ((ev_loadH rfl Tryz.underlying2 rfl hblk2 rfl : Ev Tryz.prog _ _ _ _ (.int .i64 (pos : Nat)))) ?_
    refine s_valW ((by simpa using ev_addI (i := (pos : Nat)) (j := 1) rfl rfl : Ev Tryz.prog _ _ _ _ (.int .i64 ((pos + 1 : Nat) : Int)))) ?_
    refine s_valW (ev_nilCheck rfl) ?_
    refine s_valW (ev_field rfl Tryz.underlying92 rfl Tryz.szT2 rfl) ?_
    refine s_eff0W (d_store1 (v := .int .i64 ((pos + 1 : Nat) : Int)) H1.drew.drew i hi1 rfl rfl (put_at _ _ _) Tryz.szT2 rfl (by show (0 + 1 : Nat) < 3; omega)) ?_
    rintro _ w2 H2
    rw [List.set_set] at H2
    have H2 : Own K W0 w2 (L.set i ((h.put rb (rd s pos (-1))).put rb (rd s (pos + 1) (-1)))) := H2
    refine s_nilW ?_
    refine x_norm ?_
    refine c_seqW ?_
    refine c_regionW ?_
    refine s_valW ev_move ?_
    refine s_valW ev_assign ?_
    refine s_valW ev_assign ?_
    refine s_nilW ?_
    refine x_norm ?_
    refine c_retW ?_
    exact r_ret2 rfl rfl rfl ⟨_, pos + 1, ⟨_, _, rfl, .inl ⟨hlt, rfl, ⟨_, hc, rfl⟩, rfl⟩⟩, put_at _ _ _, H2⟩
  · have hpe : pos = s.size := by omega
    refine c_seqW ?_
    refine c_regionW ?_
    refine s_valW ev_assign ?_
    refine s_valW ev_assign ?_
    refine s_nilW ?_
    refine x_norm ?_
    refine c_seqW ?_
    refine c_regionW ?_
    refine s_valW ev_move ?_
    refine s_valW (ev_nilCheck rfl) ?_
    refine s_valW (ev_field rfl Tryz.underlying92 rfl Tryz.szT3 rfl) ?_
    refine s_eff0W (d_store1 (v := .int .i64 (-1)) H i hi rfl rfl hb Tryz.szT3 rfl (by show (0 + 2 : Nat) < 3; omega)) ?_
    rintro _ w1 H1
    have H1 : Own K W0 w1 (L.set i (h.put rb (rd s pos (-1)))) := H1
    have hi1 := set_get hi (h.put rb (rd s pos (-1)))
    have hblk := H1.heap hi1 (put_at _ _ _)
    refine s_nilW ?_
    refine x_norm ?_
    refine c_seqW ?_
    refine c_seqW ?_
    refine b_beginW (by kernel_rfl) (Hold w1) 10 ?_
    have hS : (Hold w1) (World.drew w1) := hold_drew
    refine b_takeW (calm_then (calm_then calm_body)) hS 0 rfl (by kernel_rfl) (fun _ hS => ev_move) ?_
    refine b_takeW (calm_then (calm_then calm_body)) hS 1 rfl (by kernel_rfl) (fun _ hS => ev_nilCheck rfl) ?_
    refine b_takeW (calm_then (calm_then calm_body)) hS 2 rfl (by kernel_rfl) (fun _ hS => ev_field rfl Tryz.underlying92 rfl Tryz.szT2 rfl) ?_
    refine b_takeW (calm_then (calm_then calm_body)) hS 3 rfl (by kernel_rfl) (fun _ hS => (ev_loadH rfl Tryz.underlying2 rfl (hS.block hblk) rfl : Ev Tryz.prog _ _ _ _ (.int .i64 (pos : Nat)))) ?_
    refine b_takeW (calm_then (calm_then calm_body)) hS 4 rfl (by kernel_rfl) (fun _ hS => ev_move) ?_
    refine b_takeW (calm_then (calm_then calm_body)) hS 5 rfl (by kernel_rfl) (fun _ hS => ev_nilCheck rfl) ?_
    refine b_takeW (calm_then (calm_then calm_body)) hS 6 rfl (by kernel_rfl) (fun _ hS => ev_field rfl Tryz.underlying92 rfl Tryz.szT9 rfl) ?_
    refine b_takeW (calm_then (calm_then calm_body)) hS 7 rfl (by kernel_rfl) (fun _ hS => (ev_loadH rfl Tryz.underlying9 rfl (hS.block hblk) rfl : Ev Tryz.prog _ _ _ _ (.string s))) ?_
    refine b_takeW (calm_then (calm_then calm_body)) hS 8 rfl (by kernel_rfl) (fun _ hS => ev_len_string rfl Tryz.underlying9) ?_
    refine b_takeW (calm_then (calm_then calm_body)) hS 9 rfl (by kernel_rfl) (fun _ hS => ev_ge_t rfl rfl (by omega)) ?_
    refine b_doneW (by kernel_rfl) ?_
    refine x_norm ?_
    refine c_trueW rfl ?_
    refine c_seqW ?_
    refine b_beginW (by kernel_rfl) (Hold w1.drew) 3 ?_
    have hS : (Hold w1.drew) (World.drew w1.drew) := hold_drew
    refine b_takeW (calm_then (calm_then calm_body)) hS 0 rfl (by kernel_rfl) (fun _ hS => ev_load rfl Tryz.underlying61 rfl (hS.cell (E.cell H1.drew))) ?_
    refine b_takeW (calm_then (calm_then calm_body)) hS 1 rfl (by kernel_rfl) (fun _ hS => ev_assign) ?_
    refine b_takeW (calm_then (calm_then calm_body)) hS 2 rfl (by kernel_rfl) (fun _ hS => ev_assign) ?_
    refine b_doneW (by kernel_rfl) ?_
    refine x_norm ?_
    refine c_retW ?_
    refine x_ret ?_
    exact r_ret2 rfl rfl rfl ⟨_, pos, ⟨_, _, rfl, .inr ⟨hpe, rfl, hpe⟩⟩, put_at _ _ _, H1.drew.drew⟩

theorem zUnreadByte (H : Own K W0 w L) (i : Nat) (hi : L[i]? = some h) {rb pos : Nat} {s : ByteArray} {prev : Int} (hb : h rb = some (rd s (pos + 1) prev)) (hp : pos ≤ 1000000) :
    Calls Tryz.prog 99 #[.pointer (some ⟨rb, 0, none⟩)] w fun e w' => ∃ u, e = .returned u ∧ ∃ h', h' rb = some (rd s pos (-1)) ∧ Own K W0 w' (L.set i h') := by
  refine bodyW (n := 19) (args := [.pointer (some ⟨rb, 0, none⟩)]) Tryz.func99 rfl rfl rfl ?_
  have hblk := H.heap hi hb
  refine c_seqW ?_
  refine c_regionW ?_
  refine s_valW ev_assign ?_
  refine s_nilW ?_
  refine x_norm ?_
  refine c_seqW ?_
  refine c_seqW ?_
  refine c_regionW ?_
  refine s_valW ev_move ?_
  refine s_valW (ev_nilCheck rfl) ?_
  refine s_valW (ev_field rfl Tryz.underlying92 rfl Tryz.szT2 rfl) ?_
  refine s_valW ((ev_loadH rfl Tryz.underlying2 rfl hblk rfl : Ev Tryz.prog _ _ _ _ (.int .i64 ((pos + 1 : Nat) : Int)))) ?_
  refine s_valW (ev_le_f rfl rfl (by omega)) ?_
  refine s_nilW ?_
  refine x_norm ?_
  refine c_falseW rfl ?_
  refine c_skipW ?_
  refine x_norm ?_
  refine c_seqW ?_
  refine c_regionW ?_
  refine s_valW ev_move ?_
  refine s_valW (ev_nilCheck rfl) ?_
  refine s_valW (ev_field rfl Tryz.underlying92 rfl Tryz.szT3 rfl) ?_
  refine s_eff0W (d_store1 (v := .int .i64 (-1)) H i hi rfl rfl hb Tryz.szT3 rfl (by show (0 + 2 : Nat) < 3; omega)) ?_
  rintro _ w1 H1
  have H1 : Own K W0 w1 (L.set i (h.put rb (rd s (pos + 1) (-1)))) := H1
  have hi1 := set_get hi (h.put rb (rd s (pos + 1) (-1)))
  have hblk1 := H1.heap hi1 (put_at _ _ _)
  refine s_nilW ?_
  refine x_norm ?_
  refine c_seqW ?_
  refine c_regionW ?_
  refine s_valW ev_move ?_
  refine s_valW (ev_nilCheck rfl) ?_
  refine s_valW (ev_field rfl Tryz.underlying92 rfl Tryz.szT2 rfl) ?_
  refine s_valW ((ev_loadH rfl Tryz.underlying2 rfl hblk1 rfl : Ev Tryz.prog _ _ _ _ (.int .i64 ((pos + 1 : Nat) : Int)))) ?_
  refine s_valW ((by simpa using ev_subI (i := ((pos + 1 : Nat) : Int)) (j := 1) rfl rfl : Ev Tryz.prog _ _ _ _ (.int .i64 (pos : Nat)))) ?_
  refine s_valW (ev_nilCheck rfl) ?_
  refine s_valW (ev_field rfl Tryz.underlying92 rfl Tryz.szT2 rfl) ?_
  refine s_eff0W (d_store1 (v := .int .i64 (pos : Nat)) H1 i hi1 rfl rfl (put_at _ _ _) Tryz.szT2 rfl (by show (0 + 1 : Nat) < 3; omega)) ?_
  rintro _ w2 H2
  rw [List.set_set] at H2
  have H2 : Own K W0 w2 (L.set i ((h.put rb (rd s (pos + 1) (-1))).put rb (rd s pos (-1)))) := H2
  refine s_nilW ?_
  refine x_norm ?_
  refine c_seqW ?_
  refine c_regionW ?_
  refine s_valW ev_assign ?_
  refine s_nilW ?_
  refine x_norm ?_
  refine c_retW ?_
  exact r_ret rfl rfl ⟨_, put_at _ _ _, H2⟩

theorem zNewReader (H : Own K W0 w L) (s : ByteArray) :
    Calls Tryz.prog 37 #[.string s] w fun e w' => ∃ u, e = .returned u ∧ ∃ rb, u = .pointer (some ⟨rb, 0, none⟩) ∧ Own K W0 w' (L ++ [Hl.one rb (rd s 0 (-1))]) := by
  refine bodyW (n := 6) (args := [.string s]) Tryz.func37 rfl rfl rfl ?_
  refine c_seqW ?_
  refine c_regionW ?_
  refine s_valW ev_assign ?_
  refine s_nilW ?_
  refine x_norm ?_
  refine c_seqW ?_
  refine c_regionW ?_
  refine s_valW ev_move ?_
  refine s_valW (v := .agg #[.string s, .int .i64 0, .int .i64 (-1)]) (by unfold Ev; kernel_rfl) ?_
  refine s_effW (d_box (cs := #[.string s, .int .i64 0, .int .i64 (-1)]) H rfl) ?_
  rintro _ w1 ⟨rb, rfl, H1⟩
  refine s_valW ev_assign ?_
  refine s_nilW ?_
  refine x_norm ?_
  refine c_retW ?_
  exact r_ret rfl rfl ⟨rb, rfl, H1⟩

theorem readM (b : Nat) (w : World) : (callMethod (.iface 83 (.pointer (some ⟨b, 0, none⟩))) "ReadByte" #[]).run Tryz.prog w = .ok (.enter 98 #[.pointer (some ⟨b, 0, none⟩)]) w := by kernel_rfl
theorem unreadM (b : Nat) (w : World) : (callMethod (.iface 83 (.pointer (some ⟨b, 0, none⟩))) "UnreadByte" #[]).run Tryz.prog w = .ok (.enter 99 #[.pointer (some ⟨b, 0, none⟩)]) w := by kernel_rfl

/-- The first byte is a digit: it is read, and given back. -/
theorem zScanSign (H : Own K W0 w L) (i : Nat) (hi : L[i]? = some h) {rb : Nat} {s : ByteArray} {prev : Int} {q : Addr} {c : UInt8} (hb : h rb = some (rd s 0 prev)) (E : Eof K W0 q) (hs : s.size ≤ 1000000) (hc : s[0]? = some c) (hd : 48 ≤ c.toNat) :
    Calls Tryz.prog 39 #[.iface 83 (.pointer (some ⟨rb, 0, none⟩))] w fun e w' => ∃ u, e = .returned u ∧ u = .tuple #[.bool false, .nilIface] ∧ ∃ h', h' rb = some (rd s 0 (-1)) ∧ Own K W0 w' (L.set i h') := by
  refine bodyW (n := 20) (args := [.iface 83 (.pointer (some ⟨rb, 0, none⟩))]) Tryz.func39 rfl rfl rfl ?_
  have hlt : 0 < s.size := by
    rcases Nat.eq_zero_or_pos s.size with h0 | h0
    · rw [getElem?_neg _ _ (by omega)] at hc; cases hc
    · exact h0
  refine c_seqW ?_
  refine c_regionW ?_
  refine s_valW ev_assign ?_
  refine s_valW ev_assign ?_
  refine s_nilW ?_
  refine x_norm ?_
  refine c_seqW ?_
  refine c_regionW ?_
  refine s_valW ev_assign ?_
  refine s_nilW ?_
  refine x_norm ?_
  refine c_seqW ?_
  refine c_seqW ?_
  refine c_regionW ?_
  refine s_valW ev_move ?_
  refine s_effW (d_invoke (readM rb _) (zReadByte H i hi hb E (by omega) hs)) ?_
  rintro _ w1 ⟨h1, pos', ⟨b, ev, rfl, hcase⟩, hb1, H1⟩
  rcases hcase with ⟨_, rfl, ⟨c', hc', rfl⟩, rfl⟩ | ⟨h0, _⟩
  rotate_left
  · omega
  obtain rfl : c' = c := by rw [hc] at hc'; exact (Option.some.inj hc').symm
  have hi1 := set_get hi h1
  refine s_valW ev_move ?_
  refine s_valW (ev_extract rfl rfl) ?_
  refine s_valW (ev_extract rfl rfl) ?_
  refine s_valW ev_assign ?_
  refine s_valW ev_assign ?_
  refine s_nilW ?_
  refine x_norm ?_
  refine c_seqW ?_
  refine c_regionW ?_
  refine s_valW ev_move ?_
  refine s_valW (ev_nilNil_ne rfl rfl Tryz.underlying61) ?_
  refine s_nilW ?_
  refine x_norm ?_
  refine c_falseW rfl ?_
  refine c_skipW ?_
  refine x_norm ?_
  refine c_seqW ?_
  refine c_seqW ?_
  refine c_regionW ?_
  refine s_valW ev_move ?_
  refine s_nilW ?_
  refine x_norm ?_
  refine c_blockW ?_
  refine c_seqW ?_
  refine c_regionW ?_
  refine s_valW (ev_eq_f rfl rfl (by omega)) ?_
  refine s_valW ev_assign ?_
  refine s_nilW ?_
  refine x_norm ?_
  refine c_falseW rfl ?_
  refine c_seqW ?_
  refine c_regionW ?_
  refine s_valW (ev_eq_f rfl rfl (by omega)) ?_
  refine s_valW ev_assign ?_
  refine s_nilW ?_
  refine x_norm ?_
  refine c_falseW rfl ?_
  refine c_regionW ?_
  refine s_valW ev_move ?_
  refine s_effW (d_invoke (unreadM rb _) (zUnreadByte H1 i hi1 hb1 (by omega))) ?_
  rintro _ w2 ⟨h2, hb2, H2⟩
  rw [List.set_set] at H2
  refine s_nilW ?_
  refine x_normb ?_
  refine x_norm ?_
  refine c_retW ?_
  exact r_ret2 rfl rfl rfl ⟨rfl, h2, hb2, H2⟩
end
end Go.Proofs.YtgikfcmcgpcckaaGreatDoor
