/- Walks through functions of the program: each call comes to what its theorem says. A part of the proofs of FnExactDegree and FnExactCoefficient. -/
import Derived.Test.YtgikfcmcgpcckaaGreatDoorGp1
namespace Go.Proofs.YtgikfcmcgpcckaaGreatDoor
open Go Go.RowKit Sl

theorem zBitParams (w : World) (p : Addr) : Calls Tryz.prog 79 #[.pointer (some p)] w fun e w' => ∃ u, e = .returned u ∧ (u = .pointer (some p) ∧ w' = w) := by
  refine bodyW (n := 4) (args := [.pointer (some p)]) Tryz.func79 rfl rfl rfl ?_
  refine c_seqW ?_
  refine c_regionW ?_
  refine s_valW ev_assign ?_
  refine s_nilW ?_
  refine x_norm ?_
  refine c_seqW ?_
  refine c_regionW ?_
  refine s_valW ev_move ?_
  refine s_valW ev_assign ?_
  refine s_nilW ?_
  refine x_norm ?_
  refine c_retW ?_
  exact r_ret rfl rfl ⟨rfl, rfl⟩

theorem paramsM (b : Nat) (w : World) : (callMethod (.iface 65 (.pointer (some ⟨b, 0, none⟩))) "Params" #[]).run Tryz.prog w = .ok (.enter 79 #[.pointer (some ⟨b, 0, none⟩)]) w := by kernel_rfl

theorem zByteSize {w : World} {c : Int} {cv od : Value} (hg : Grp (wR w) c cv od) :
    Calls Tryz.prog 93 #[.agg #[cv, od]] w fun e w' => ∃ u, e = .returned u ∧ (u = .int .i64 (szOf c : Nat) ∧ Below w.heap.size w w') := by
  obtain ⟨pb, cs, fz, bits, rfl, hpb, h5, hsz, hbits⟩ := hg.cv
  refine bodyW (n := 11) (args := [.agg #[.iface 65 (.pointer (some ⟨pb, 0, none⟩)), od]]) Tryz.func93 rfl rfl rfl ?_
  refine c_seqW ?_
  refine c_regionW ?_
  refine s_effW (d_box (cs := #[.iface 65 (.pointer (some ⟨pb, 0, none⟩)), od]) (Own.begin w) rfl) ?_
  rintro _ w1 ⟨tb, rfl, H1⟩
  have hpb1 : w1.heap[pb]? = some (.cells cs 75 fz) := Sl.Below.rd H1.toBelow _ _ hpb
  refine s_valW ev_assign ?_
  refine s_nilW ?_
  refine x_norm ?_
  refine c_seqW ?_
  refine c_regionW ?_
  refine s_valW (ev_field rfl Tryz.underlying71 rfl Tryz.szT69 rfl) ?_
  refine s_valW ((ev_loadH rfl Tryz.underlying69 rfl (H1.heap1 0 rfl) rfl : Ev Tryz.prog _ _ _ _ (.iface 65 (.pointer (some ⟨pb, 0, none⟩))))) ?_
  refine s_effW (d_invoke (paramsM pb _) (zBitParams _ _)) ?_
  rintro _ _ ⟨rfl, rfl⟩
  refine s_valW (ev_nilCheck rfl) ?_
  refine s_valW (ev_field rfl Tryz.underlying75 rfl Tryz.szT3 rfl) ?_
  refine s_valW ((ev_loadH rfl Tryz.underlying3 rfl hpb1 h5 : Ev Tryz.prog _ _ _ _ (.int .i64 (bits : Nat)))) ?_
  refine s_valW ((by simpa using ev_addI (i := (bits : Nat)) (j := 7) rfl rfl : Ev Tryz.prog _ _ _ _ (.int .i64 ((bits + 7 : Nat) : Int)))) ?_
  refine s_valW ((by rw [← hsz]; exact ev_quoI (i := bits + 7) (j := 8) rfl rfl : Ev Tryz.prog _ _ _ _ (.int .i64 (szOf c : Nat)))) ?_
  refine s_valW ev_assign ?_
  refine s_nilW ?_
  refine x_norm ?_
  refine c_retW ?_
  exact r_ret rfl rfl ⟨rfl, H1.toBelow⟩

section
variable {K : Nat → Prop} {W0 w : World} {L : List Hl} {R : Rd}

def zer (n : Nat) : List Nat := List.replicate n 0
theorem zer_len (n : Nat) : (zer n).length = n := by simp [zer]
theorem rep_bA (n : Nat) : Array.replicate n (Value.int .u8 0) = bA (zer n) := by
  apply Array.ext'
  simp [bA, zer]

/-- A scalar's struct. -/
def sclO (cv od : Value) (kb n k : Nat) : Obj := .cells #[cv, od, .slice (some ⟨kb, 0, none⟩) n k] 162 (0, 0)

theorem zZeroScalar (H : Own K W0 w L) {c : Int} {cv od : Value} (hg : Grp (Kept K W0) c cv od) :
    Calls Tryz.prog 92 #[.agg #[cv, od]] w fun e w' => ∃ u, e = .returned u ∧ (∃ kb sb, u = .pointer (some ⟨sb, 0, none⟩) ∧ Own K W0 w' (L ++ [Hl.one kb (.cells (bA (zer (szOf c))) 5 (0, 0)), Hl.one sb (sclO cv od kb (szOf c) (szOf c))])) := by
  have hs := szOf_le c
  refine bodyW (n := 9) (args := [.agg #[cv, od]]) Tryz.func92 rfl rfl rfl ?_
  refine c_seqW ?_
  refine c_regionW ?_
  refine s_effW (d_box (cs := #[cv, od]) H rfl) ?_
  rintro _ w1 ⟨tb, rfl, H1⟩
  have hl1 : (L ++ [Hl.one tb (Obj.cells #[cv, od] 71)])[L.length]? = some (Hl.one tb (Obj.cells #[cv, od] 71)) := by simp
  have htb : w1.heap[tb]? = some (.cells #[cv, od] 71 (0, 0)) := H1.heap1 _ hl1
  refine s_valW ev_assign ?_
  refine s_nilW ?_
  refine x_norm ?_
  refine c_seqW ?_
  refine b_beginW (by kernel_rfl) (fun w' => w'.heap[tb]? = some (.cells #[cv, od] 71 (0, 0))) 7 ?_
  have hS : (fun w' => w'.heap[tb]? = some (.cells #[cv, od] 71 (0, 0))) (World.drew w1) := htb
  refine b_takeW (calm_then calm_body) hS 0 rfl (by kernel_rfl) (fun _ hS => (ev_loadAgg rfl Tryz.underlying71 rfl Tryz.szT71 hS (Nat.le_refl _) : Ev Tryz.prog _ _ _ _ (.agg #[cv, od]))) ?_
  refine b_takeW (calm_then calm_body) hS 1 rfl (by kernel_rfl) (fun _ hS => (ev_loadAgg rfl Tryz.underlying71 rfl Tryz.szT71 hS (Nat.le_refl _) : Ev Tryz.prog _ _ _ _ (.agg #[cv, od]))) ?_
  refine b_effW 2 rfl (by kernel_rfl) rfl (d_call Tryz.call93 (zByteSize (hg.mono H1.drew.read))) ?_
  rintro _ w2 ⟨rfl, B2⟩
  have H2 := H1.drew.below B2
  have htb2 := Sl.Below.rd B2 _ _ htb
  have hS : (fun w' => w'.heap[tb]? = some (.cells #[cv, od] 71 (0, 0))) w2 := Sl.Below.rd B2 _ _ htb
  refine ⟨hS, ?_⟩
  refine b_effW 3 rfl (by kernel_rfl) rfl (d_make (nn := szOf c) H2 rfl rfl Tryz.underlying29 Tryz.infT5 rfl (by omega) (by omega)) ?_
  rintro _ w3 ⟨kb, rfl, H3⟩
  rw [rep_bA] at H3
  have hS : (fun w' => w'.heap[tb]? = some (.cells #[cv, od] 71 (0, 0))) w3 := H3.heap1 L.length (by simp)
  refine ⟨hS, ?_⟩
  refine b_takeW (calm_then calm_body) hS 4 rfl (by kernel_rfl) (fun _ hS => (by unfold Ev; kernel_rfl : Ev Tryz.prog _ _ _ _ (.agg #[cv, od, .slice (some ⟨kb, 0, none⟩) (szOf c) (szOf c)]))) ?_
  refine b_effW 5 rfl (by kernel_rfl) rfl (d_box (cs := #[cv, od, .slice (some ⟨kb, 0, none⟩) (szOf c) (szOf c)]) H3 rfl) ?_
  rintro _ w4 ⟨sb, rfl, H4⟩
  have H5 : Own K W0 w4 (L ++ [Hl.one kb (.cells (bA (zer (szOf c))) 5 (0, 0)), Hl.one sb (sclO cv od kb (szOf c) (szOf c))]) := H4.sub (by
    rw [List.append_assoc, List.append_assoc]
    refine List.Sublist.append (List.Sublist.refl L) ?_
    exact List.Sublist.cons _ (List.Sublist.refl _))
  have hS : (fun w' => w'.heap[tb]? = some (.cells #[cv, od] 71 (0, 0))) w4 := H4.heap1 L.length (by simp)
  refine ⟨hS, ?_⟩
  refine b_takeW (calm_then calm_body) hS 6 rfl (by kernel_rfl) (fun _ hS => ev_assign) ?_
  refine b_doneW (by kernel_rfl) ?_
  refine x_norm ?_
  refine c_retW ?_
  exact r_ret rfl rfl ⟨kb, sb, rfl, H5⟩

theorem zNewScalar (H : Own K W0 w L) {c : Int} {cv od : Value} (hg : Grp (Kept K W0) c cv od) :
    Calls Tryz.prog 86 #[.agg #[cv, od]] w fun e w' => ∃ u, e = .returned u ∧ (∃ kb sb, u = .iface 159 (.pointer (some ⟨sb, 0, none⟩)) ∧ Own K W0 w' (L ++ [Hl.one kb (.cells (bA (zer (szOf c))) 5 (0, 0)), Hl.one sb (sclO cv od kb (szOf c) (szOf c))])) := by
  refine bodyW (n := 6) (args := [.agg #[cv, od]]) Tryz.func86 rfl rfl rfl ?_
  refine c_seqW ?_
  refine c_regionW ?_
  refine s_effW (d_box (cs := #[cv, od]) H rfl) ?_
  rintro _ w1 ⟨tb, rfl, H1⟩
  have hl1 : (L ++ [Hl.one tb (Obj.cells #[cv, od] 71)])[L.length]? = some (Hl.one tb (Obj.cells #[cv, od] 71)) := by simp
  have H1' := H1.left
  refine s_valW ev_assign ?_
  refine s_nilW ?_
  refine x_norm ?_
  refine c_seqW ?_
  refine c_regionW ?_
  refine s_valW ((ev_loadAgg rfl Tryz.underlying71 rfl Tryz.szT71 (H1.heap1 _ hl1) (Nat.le_refl _) : Ev Tryz.prog _ _ _ _ (.agg #[cv, od]))) ?_
  refine s_effW (d_call Tryz.call92 (zZeroScalar H1' hg)) ?_
  rintro _ w2 ⟨kb, sb, rfl, H2⟩
  refine s_valW (ev_mkIface Tryz.underlying159 rfl) ?_
  refine s_valW ev_assign ?_
  refine s_nilW ?_
  refine x_norm ?_
  refine c_retW ?_
  exact r_ret rfl rfl ⟨kb, sb, rfl, H2⟩
end

theorem zByteEq (a b : Int) (w : World) : Calls Tryz.prog 125 #[.int .u8 a, .int .u8 b] w fun e w' => ∃ u, e = .returned u ∧ (u = .int .i64 (if a = b then 1 else 0) ∧ w' = w) := by
  refine bodyW (n := 8) (args := [.int .u8 a, .int .u8 b]) Tryz.func125 rfl rfl rfl ?_
  by_cases h : a = b
  · rw [if_pos h]
    refine c_seqW ?_
    refine c_regionW ?_
    refine s_valW ev_assign ?_
    refine s_nilW ?_
    refine x_norm ?_
    refine c_seqW ?_
    refine c_seqW ?_
    refine c_regionW ?_
    refine s_valW ev_move ?_
    refine s_valW ev_move ?_
    refine s_valW (ev_eq_t rfl rfl h) ?_
    refine s_nilW ?_
    refine x_norm ?_
    refine c_trueW rfl ?_
    refine c_seqW ?_
    refine c_regionW ?_
    refine s_valW ev_assign ?_
    refine s_nilW ?_
    refine x_norm ?_
    refine c_retW ?_
    refine x_ret ?_
    exact r_ret rfl rfl ⟨rfl, rfl⟩
  · rw [if_neg h]
    refine c_seqW ?_
    refine c_regionW ?_
    refine s_valW ev_assign ?_
    refine s_nilW ?_
    refine x_norm ?_
    refine c_seqW ?_
    refine c_seqW ?_
    refine c_regionW ?_
    refine s_valW ev_move ?_
    refine s_valW ev_move ?_
    refine s_valW (ev_eq_f rfl rfl h) ?_
    refine s_nilW ?_
    refine x_norm ?_
    refine c_falseW rfl ?_
    refine c_skipW ?_
    refine x_norm ?_
    refine c_seqW ?_
    refine c_regionW ?_
    refine s_valW ev_assign ?_
    refine s_nilW ?_
    refine x_norm ?_
    refine c_retW ?_
    exact r_ret rfl rfl ⟨rfl, rfl⟩

theorem zSelect (v a b : Int) (w : World) : Calls Tryz.prog 126 #[.int .i64 v, .int .i64 a, .int .i64 b] w fun e w' => ∃ u, e = .returned u ∧ (u = .int .i64 (if v = 1 then a else b) ∧ w' = w) := by
  refine bodyW (n := 11) (args := [.int .i64 v, .int .i64 a, .int .i64 b]) Tryz.func126 rfl rfl rfl ?_
  by_cases h : v = 1
  · rw [if_pos h]
    refine c_seqW ?_
    refine c_regionW ?_
    refine s_valW ev_assign ?_
    refine s_nilW ?_
    refine x_norm ?_
    refine c_seqW ?_
    refine c_seqW ?_
    refine c_regionW ?_
    refine s_valW ev_move ?_
    refine s_valW (ev_eq_t rfl rfl h) ?_
    refine s_nilW ?_
    refine x_norm ?_
    refine c_trueW rfl ?_
    refine c_seqW ?_
    refine c_regionW ?_
    refine s_valW ev_move ?_
    refine s_valW ev_assign ?_
    refine s_nilW ?_
    refine x_norm ?_
    refine c_retW ?_
    refine x_ret ?_
    exact r_ret rfl rfl ⟨rfl, rfl⟩
  · rw [if_neg h]
    refine c_seqW ?_
    refine c_regionW ?_
    refine s_valW ev_assign ?_
    refine s_nilW ?_
    refine x_norm ?_
    refine c_seqW ?_
    refine c_seqW ?_
    refine c_regionW ?_
    refine s_valW ev_move ?_
    refine s_valW (ev_eq_f rfl rfl h) ?_
    refine s_nilW ?_
    refine x_norm ?_
    refine c_falseW rfl ?_
    refine c_skipW ?_
    refine x_norm ?_
    refine c_seqW ?_
    refine c_regionW ?_
    refine s_valW ev_move ?_
    refine s_valW ev_assign ?_
    refine s_nilW ?_
    refine x_norm ?_
    refine c_retW ?_
    exact r_ret rfl rfl ⟨rfl, rfl⟩

theorem zLessOrEq (a b : Int) (w : World) : Calls Tryz.prog 127 #[.int .i64 a, .int .i64 b] w fun e w' => ∃ u, e = .returned u ∧ (u = .int .i64 (if a ≤ b then 1 else 0) ∧ w' = w) := by
  refine bodyW (n := 8) (args := [.int .i64 a, .int .i64 b]) Tryz.func127 rfl rfl rfl ?_
  by_cases h : a ≤ b
  · rw [if_pos h]
    refine c_seqW ?_
    refine c_regionW ?_
    refine s_valW ev_assign ?_
    refine s_nilW ?_
    refine x_norm ?_
    refine c_seqW ?_
    refine c_seqW ?_
    refine c_regionW ?_
    refine s_valW ev_move ?_
    refine s_valW ev_move ?_
    refine s_valW (ev_le_t rfl rfl h) ?_
    refine s_nilW ?_
    refine x_norm ?_
    refine c_trueW rfl ?_
    refine c_seqW ?_
    refine c_regionW ?_
    refine s_valW ev_assign ?_
    refine s_nilW ?_
    refine x_norm ?_
    refine c_retW ?_
    refine x_ret ?_
    exact r_ret rfl rfl ⟨rfl, rfl⟩
  · rw [if_neg h]
    refine c_seqW ?_
    refine c_regionW ?_
    refine s_valW ev_assign ?_
    refine s_nilW ?_
    refine x_norm ?_
    refine c_seqW ?_
    refine c_seqW ?_
    refine c_regionW ?_
    refine s_valW ev_move ?_
    refine s_valW ev_move ?_
    refine s_valW (ev_le_f rfl rfl h) ?_
    refine s_nilW ?_
    refine x_norm ?_
    refine c_falseW rfl ?_
    refine c_skipW ?_
    refine x_norm ?_
    refine c_seqW ?_
    refine c_regionW ?_
    refine s_valW ev_assign ?_
    refine s_nilW ?_
    refine x_norm ?_
    refine c_retW ?_
    exact r_ret rfl rfl ⟨rfl, rfl⟩
end Go.Proofs.YtgikfcmcgpcckaaGreatDoor
