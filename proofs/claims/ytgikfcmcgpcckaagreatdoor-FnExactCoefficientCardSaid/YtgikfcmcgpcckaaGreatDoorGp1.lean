/- Walks through functions of the program: each call comes to what its theorem says. A part of the proofs of FnExactDegree and FnExactCoefficient. -/
import Derived.Test.YtgikfcmcgpcckaaGreatDoorBg7
import Derived.Test.YtgikfcmcgpcckaaGreatDoorGw
namespace Go.Proofs.YtgikfcmcgpcckaaGreatDoor
open Go Go.RowKit Sl

def ordB0 : List Nat := [255, 255, 255, 255, 0, 0, 0, 0, 255, 255, 255, 255, 255, 255, 255, 255, 188, 230, 250, 173, 167, 23, 158, 132, 243, 185, 202, 194, 252, 99, 37, 81]
def ordB1 : List Nat := [255, 255, 255, 255, 255, 255, 255, 255, 255, 255, 255, 255, 255, 255, 255, 255, 255, 255, 255, 255, 255, 255, 255, 255, 199, 99, 77, 129, 244, 55, 45, 223, 88, 26, 13, 178, 72, 176, 167, 122, 236, 236, 25, 106, 204, 197, 41, 115]
def ordB2 : List Nat := [1, 255, 255, 255, 255, 255, 255, 255, 255, 255, 255, 255, 255, 255, 255, 255, 255, 255, 255, 255, 255, 255, 255, 255, 255, 255, 255, 255, 255, 255, 255, 255, 255, 250, 81, 134, 135, 131, 191, 47, 150, 107, 127, 204, 1, 72, 247, 9, 165, 208, 59, 181, 201, 184, 137, 156, 71, 174, 187, 111, 183, 30, 145, 56, 100, 9]

def ordB (c : Int) : List Nat := if c = 1 then ordB1 else if c = 2 then ordB2 else ordB0
theorem ordB_len (c : Int) : (ordB c).length = szOf c := by unfold ordB szOf; split; rfl; split <;> rfl
theorem ordB_lt (c : Int) : ∀ b ∈ ordB c, b < 256 := by unfold ordB; split; decide; split <;> decide
theorem ordB_val (c : Int) : BE (ordB c) = val (ordW c) := by
  unfold ordB ordW
  split
  · kernel_rfl
  · split
    · kernel_rfl
    · kernel_rfl
theorem szOf_pos (c : Int) : 0 < szOf c := by unfold szOf; split; omega; split <;> omega

/-- What a group is made of: a curve that tells its size, and its order. -/
structure Grp (R : Rd) (c : Int) (cv ord : Value) : Prop where
  ord : BytesR R ord (ordB c)
  cv : ∃ (pb : Nat) (cs : Array Value) (fz : Nat × Nat) (bits : Nat), cv = .iface 65 (.pointer (some ⟨pb, 0, none⟩)) ∧ R pb (.cells cs 75 fz) ∧ cs[5]? = some (.int .i64 (bits : Nat)) ∧ (bits + 7) / 8 = szOf c ∧ bits ≤ 1000

theorem Grp.mono {R R' : Rd} {c : Int} {cv ord : Value} (h : ∀ k o, R k o → R' k o) (g : Grp R c cv ord) : Grp R' c cv ord :=
  ⟨g.ord.mono h, let ⟨pb, cs, fz, bits, h1, h2, h3, h4, h5⟩ := g.cv; ⟨pb, cs, fz, bits, h1, h _ _ h2, h3, h4, h5⟩⟩

theorem get_data {s : ByteArray} {k : Nat} {c : UInt8} (h : s[k]? = some c) : c ∈ s.data.toList := by
  have h1 : s.data[k]? = some c := by
    rw [← h]
    by_cases hk : k < s.size
    · rw [getElem?_pos s k hk, getElem?_pos s.data k hk]; rfl
    · rw [getElem?_neg s k hk, getElem?_neg s.data k hk]
  have := Array.mem_of_getElem? h1
  simpa using this
theorem dig10 (s : ByteArray) (h : s.data.toList.all (fun c => decide (48 ≤ c.toNat ∧ c.toNat ≤ 57)) = true) (k : Nat) (c : UInt8) (hk : s[k]? = some c) : 48 ≤ c.toNat ∧ c.toNat ≤ 57 := by
  have := List.all_eq_true.1 h c (get_data hk)
  simpa using this
theorem dig16 (s : ByteArray) (h : s.data.toList.all (fun c => decide ((48 ≤ c.toNat ∧ c.toNat ≤ 57) ∨ (97 ≤ c.toNat ∧ c.toNat ≤ 102))) = true) (k : Nat) (c : UInt8) (hk : s[k]? = some c) : (48 ≤ c.toNat ∧ c.toNat ≤ 57) ∨ (97 ≤ c.toNat ∧ c.toNat ≤ 102) := by
  have := List.all_eq_true.1 h c (get_data hk)
  simpa using this

section
variable {w : World} {q : Addr}

theorem zParams0 (hE : w.cell? ⟨0, 0, none⟩ = some (eofV q)) :
    Calls Tryz.prog 31 #[] w fun e w' => ∃ u, e = .returned u ∧ ((∃ pb cs, u = .pointer (some ⟨pb, 0, none⟩) ∧ w'.heap[pb]? = some (.cells cs 75 (0, 0)) ∧ cs[5]? = some (.int .i64 256)) ∧ Below w.heap.size w w') := by
  refine bodyW (n := 8) (args := []) Tryz.func31 rfl rfl rfl ?_
  refine c_seqW ?_
  refine c_regionW ?_
  refine s_valW ev_assign ?_
  refine s_nilW ?_
  refine x_norm ?_
  refine c_seqW ?_
  refine c_regionW ?_
  refine s_effW (d_call Tryz.call33 (zBig10 hE (of_decide_eq_true (by kernel_rfl)) (of_decide_eq_true (by kernel_rfl)) (dig10 _ (by kernel_rfl)))) ?_
  rintro _ w1 ⟨⟨b0, rfl⟩, C1⟩
  have B1 : Below w.heap.size w w1 := C1
  have hE1 : w1.cell? ⟨0, 0, none⟩ = some (eofV q) := Sl.Below.cell B1 hE
  refine s_effW (d_call Tryz.call33 (zBig10 hE1 (of_decide_eq_true (by kernel_rfl)) (of_decide_eq_true (by kernel_rfl)) (dig10 _ (by kernel_rfl)))) ?_
  rintro _ w2 ⟨⟨b1, rfl⟩, C2⟩
  have B2 : Below w.heap.size w w2 := Sl.Below.trans' B1 C2
  have hE2 : w2.cell? ⟨0, 0, none⟩ = some (eofV q) := Sl.Below.cell B2 hE
  refine s_effW (d_call Tryz.call34 (zBig16 hE2 (of_decide_eq_true (by kernel_rfl)) (of_decide_eq_true (by kernel_rfl)) (dig16 _ (by kernel_rfl)))) ?_
  rintro _ w3 ⟨⟨b2, rfl⟩, C3⟩
  have B3 : Below w.heap.size w w3 := Sl.Below.trans' B2 C3
  have hE3 : w3.cell? ⟨0, 0, none⟩ = some (eofV q) := Sl.Below.cell B3 hE
  refine s_effW (d_call Tryz.call34 (zBig16 hE3 (of_decide_eq_true (by kernel_rfl)) (of_decide_eq_true (by kernel_rfl)) (dig16 _ (by kernel_rfl)))) ?_
  rintro _ w4 ⟨⟨b3, rfl⟩, C4⟩
  have B4 : Below w.heap.size w w4 := Sl.Below.trans' B3 C4
  have hE4 : w4.cell? ⟨0, 0, none⟩ = some (eofV q) := Sl.Below.cell B4 hE
  refine s_effW (d_call Tryz.call34 (zBig16 hE4 (of_decide_eq_true (by kernel_rfl)) (of_decide_eq_true (by kernel_rfl)) (dig16 _ (by kernel_rfl)))) ?_
  rintro _ w5 ⟨⟨b4, rfl⟩, C5⟩
  have B5 : Below w.heap.size w w5 := Sl.Below.trans' B4 C5
  refine s_valW (v := .agg #[.pointer (some ⟨b0, 0, none⟩), .pointer (some ⟨b1, 0, none⟩), .pointer (some ⟨b2, 0, none⟩), .pointer (some ⟨b3, 0, none⟩), .pointer (some ⟨b4, 0, none⟩), (Value.int .i64 (256)), (Value.string ⟨#[80, 45, 50, 53, 54]⟩)]) (by unfold Ev; kernel_rfl) ?_
  refine s_effW (d_box (cs := #[.pointer (some ⟨b0, 0, none⟩), .pointer (some ⟨b1, 0, none⟩), .pointer (some ⟨b2, 0, none⟩), .pointer (some ⟨b3, 0, none⟩), .pointer (some ⟨b4, 0, none⟩), (Value.int .i64 (256)), (Value.string ⟨#[80, 45, 50, 53, 54]⟩)]) ((Own.begin w).below B5) rfl) ?_
  rintro _ w6 ⟨pb, rfl, H6⟩
  refine s_valW ev_assign ?_
  refine s_nilW ?_
  refine x_norm ?_
  refine c_retW ?_
  exact r_ret rfl rfl ⟨⟨pb, _, rfl, H6.heap1 0 rfl, rfl⟩, H6.toBelow⟩

theorem zParams1 (hE : w.cell? ⟨0, 0, none⟩ = some (eofV q)) :
    Calls Tryz.prog 27 #[] w fun e w' => ∃ u, e = .returned u ∧ ((∃ pb cs, u = .pointer (some ⟨pb, 0, none⟩) ∧ w'.heap[pb]? = some (.cells cs 75 (0, 0)) ∧ cs[5]? = some (.int .i64 384)) ∧ Below w.heap.size w w') := by
  refine bodyW (n := 8) (args := []) Tryz.func27 rfl rfl rfl ?_
  refine c_seqW ?_
  refine c_regionW ?_
  refine s_valW ev_assign ?_
  refine s_nilW ?_
  refine x_norm ?_
  refine c_seqW ?_
  refine c_regionW ?_
  refine s_effW (d_call Tryz.call33 (zBig10 hE (of_decide_eq_true (by kernel_rfl)) (of_decide_eq_true (by kernel_rfl)) (dig10 _ (by kernel_rfl)))) ?_
  rintro _ w1 ⟨⟨b0, rfl⟩, C1⟩
  have B1 : Below w.heap.size w w1 := C1
  have hE1 : w1.cell? ⟨0, 0, none⟩ = some (eofV q) := Sl.Below.cell B1 hE
  refine s_effW (d_call Tryz.call33 (zBig10 hE1 (of_decide_eq_true (by kernel_rfl)) (of_decide_eq_true (by kernel_rfl)) (dig10 _ (by kernel_rfl)))) ?_
  rintro _ w2 ⟨⟨b1, rfl⟩, C2⟩
  have B2 : Below w.heap.size w w2 := Sl.Below.trans' B1 C2
  have hE2 : w2.cell? ⟨0, 0, none⟩ = some (eofV q) := Sl.Below.cell B2 hE
  refine s_effW (d_call Tryz.call34 (zBig16 hE2 (of_decide_eq_true (by kernel_rfl)) (of_decide_eq_true (by kernel_rfl)) (dig16 _ (by kernel_rfl)))) ?_
  rintro _ w3 ⟨⟨b2, rfl⟩, C3⟩
  have B3 : Below w.heap.size w w3 := Sl.Below.trans' B2 C3
  have hE3 : w3.cell? ⟨0, 0, none⟩ = some (eofV q) := Sl.Below.cell B3 hE
  refine s_effW (d_call Tryz.call34 (zBig16 hE3 (of_decide_eq_true (by kernel_rfl)) (of_decide_eq_true (by kernel_rfl)) (dig16 _ (by kernel_rfl)))) ?_
  rintro _ w4 ⟨⟨b3, rfl⟩, C4⟩
  have B4 : Below w.heap.size w w4 := Sl.Below.trans' B3 C4
  have hE4 : w4.cell? ⟨0, 0, none⟩ = some (eofV q) := Sl.Below.cell B4 hE
  refine s_effW (d_call Tryz.call34 (zBig16 hE4 (of_decide_eq_true (by kernel_rfl)) (of_decide_eq_true (by kernel_rfl)) (dig16 _ (by kernel_rfl)))) ?_
  rintro _ w5 ⟨⟨b4, rfl⟩, C5⟩
  have B5 : Below w.heap.size w w5 := Sl.Below.trans' B4 C5
  refine s_valW (v := .agg #[.pointer (some ⟨b0, 0, none⟩), .pointer (some ⟨b1, 0, none⟩), .pointer (some ⟨b2, 0, none⟩), .pointer (some ⟨b3, 0, none⟩), .pointer (some ⟨b4, 0, none⟩), (Value.int .i64 (384)), (Value.string ⟨#[80, 45, 51, 56, 52]⟩)]) (by unfold Ev; kernel_rfl) ?_
  refine s_effW (d_box (cs := #[.pointer (some ⟨b0, 0, none⟩), .pointer (some ⟨b1, 0, none⟩), .pointer (some ⟨b2, 0, none⟩), .pointer (some ⟨b3, 0, none⟩), .pointer (some ⟨b4, 0, none⟩), (Value.int .i64 (384)), (Value.string ⟨#[80, 45, 51, 56, 52]⟩)]) ((Own.begin w).below B5) rfl) ?_
  rintro _ w6 ⟨pb, rfl, H6⟩
  refine s_valW ev_assign ?_
  refine s_nilW ?_
  refine x_norm ?_
  refine c_retW ?_
  exact r_ret rfl rfl ⟨⟨pb, _, rfl, H6.heap1 0 rfl, rfl⟩, H6.toBelow⟩

theorem zParams2 (hE : w.cell? ⟨0, 0, none⟩ = some (eofV q)) :
    Calls Tryz.prog 29 #[] w fun e w' => ∃ u, e = .returned u ∧ ((∃ pb cs, u = .pointer (some ⟨pb, 0, none⟩) ∧ w'.heap[pb]? = some (.cells cs 75 (0, 0)) ∧ cs[5]? = some (.int .i64 521)) ∧ Below w.heap.size w w') := by
  refine bodyW (n := 8) (args := []) Tryz.func29 rfl rfl rfl ?_
  refine c_seqW ?_
  refine c_regionW ?_
  refine s_valW ev_assign ?_
  refine s_nilW ?_
  refine x_norm ?_
  refine c_seqW ?_
  refine c_regionW ?_
  refine s_effW (d_call Tryz.call33 (zBig10 hE (of_decide_eq_true (by kernel_rfl)) (of_decide_eq_true (by kernel_rfl)) (dig10 _ (by kernel_rfl)))) ?_
  rintro _ w1 ⟨⟨b0, rfl⟩, C1⟩
  have B1 : Below w.heap.size w w1 := C1
  have hE1 : w1.cell? ⟨0, 0, none⟩ = some (eofV q) := Sl.Below.cell B1 hE
  refine s_effW (d_call Tryz.call33 (zBig10 hE1 (of_decide_eq_true (by kernel_rfl)) (of_decide_eq_true (by kernel_rfl)) (dig10 _ (by kernel_rfl)))) ?_
  rintro _ w2 ⟨⟨b1, rfl⟩, C2⟩
  have B2 : Below w.heap.size w w2 := Sl.Below.trans' B1 C2
  have hE2 : w2.cell? ⟨0, 0, none⟩ = some (eofV q) := Sl.Below.cell B2 hE
  refine s_effW (d_call Tryz.call34 (zBig16 hE2 (of_decide_eq_true (by kernel_rfl)) (of_decide_eq_true (by kernel_rfl)) (dig16 _ (by kernel_rfl)))) ?_
  rintro _ w3 ⟨⟨b2, rfl⟩, C3⟩
  have B3 : Below w.heap.size w w3 := Sl.Below.trans' B2 C3
  have hE3 : w3.cell? ⟨0, 0, none⟩ = some (eofV q) := Sl.Below.cell B3 hE
  refine s_effW (d_call Tryz.call34 (zBig16 hE3 (of_decide_eq_true (by kernel_rfl)) (of_decide_eq_true (by kernel_rfl)) (dig16 _ (by kernel_rfl)))) ?_
  rintro _ w4 ⟨⟨b3, rfl⟩, C4⟩
  have B4 : Below w.heap.size w w4 := Sl.Below.trans' B3 C4
  have hE4 : w4.cell? ⟨0, 0, none⟩ = some (eofV q) := Sl.Below.cell B4 hE
  refine s_effW (d_call Tryz.call34 (zBig16 hE4 (of_decide_eq_true (by kernel_rfl)) (of_decide_eq_true (by kernel_rfl)) (dig16 _ (by kernel_rfl)))) ?_
  rintro _ w5 ⟨⟨b4, rfl⟩, C5⟩
  have B5 : Below w.heap.size w w5 := Sl.Below.trans' B4 C5
  refine s_valW (v := .agg #[.pointer (some ⟨b0, 0, none⟩), .pointer (some ⟨b1, 0, none⟩), .pointer (some ⟨b2, 0, none⟩), .pointer (some ⟨b3, 0, none⟩), .pointer (some ⟨b4, 0, none⟩), (Value.int .i64 (521)), (Value.string ⟨#[80, 45, 53, 50, 49]⟩)]) (by unfold Ev; kernel_rfl) ?_
  refine s_effW (d_box (cs := #[.pointer (some ⟨b0, 0, none⟩), .pointer (some ⟨b1, 0, none⟩), .pointer (some ⟨b2, 0, none⟩), .pointer (some ⟨b3, 0, none⟩), .pointer (some ⟨b4, 0, none⟩), (Value.int .i64 (521)), (Value.string ⟨#[80, 45, 53, 50, 49]⟩)]) ((Own.begin w).below B5) rfl) ?_
  rintro _ w6 ⟨pb, rfl, H6⟩
  refine s_valW ev_assign ?_
  refine s_nilW ?_
  refine x_norm ?_
  refine c_retW ?_
  exact r_ret rfl rfl ⟨⟨pb, _, rfl, H6.heap1 0 rfl, rfl⟩, H6.toBelow⟩

theorem zOrd0 :
    Calls Tryz.prog 32 #[] w fun e w' => ∃ u, e = .returned u ∧ (BytesR (wR w') u ordB0 ∧ Below w.heap.size w w') := by
  refine bodyW (n := 2) (args := []) Tryz.func32 rfl rfl rfl ?_
  refine c_seqW ?_
  refine c_regionW ?_
  refine s_valW ev_assign ?_
  refine s_nilW ?_
  refine x_norm ?_
  refine c_seqW ?_
  refine c_regionW ?_
  refine s_effW (d_buildSlice (len := 32) (el := 5) (cs := bA ordB0) (Own.begin w) (by kernel_rfl)) ?_
  rintro _ w1 ⟨b, rfl, H1⟩
  refine s_valW ev_assign ?_
  refine s_nilW ?_
  refine x_norm ?_
  refine c_retW ?_
  exact r_ret rfl rfl ⟨BytesR.of_block (bs := ordB0) (H1.heap1 0 rfl) (fun i x h => bA_get h), H1.toBelow⟩

theorem zOrd1 :
    Calls Tryz.prog 28 #[] w fun e w' => ∃ u, e = .returned u ∧ (BytesR (wR w') u ordB1 ∧ Below w.heap.size w w') := by
  refine bodyW (n := 2) (args := []) Tryz.func28 rfl rfl rfl ?_
  refine c_seqW ?_
  refine c_regionW ?_
  refine s_valW ev_assign ?_
  refine s_nilW ?_
  refine x_norm ?_
  refine c_seqW ?_
  refine c_regionW ?_
  refine s_effW (d_buildSlice (len := 48) (el := 5) (cs := bA ordB1) (Own.begin w) (by kernel_rfl)) ?_
  rintro _ w1 ⟨b, rfl, H1⟩
  refine s_valW ev_assign ?_
  refine s_nilW ?_
  refine x_norm ?_
  refine c_retW ?_
  exact r_ret rfl rfl ⟨BytesR.of_block (bs := ordB1) (H1.heap1 0 rfl) (fun i x h => bA_get h), H1.toBelow⟩

theorem zOrd2 :
    Calls Tryz.prog 30 #[] w fun e w' => ∃ u, e = .returned u ∧ (BytesR (wR w') u ordB2 ∧ Below w.heap.size w w') := by
  refine bodyW (n := 2) (args := []) Tryz.func30 rfl rfl rfl ?_
  refine c_seqW ?_
  refine c_regionW ?_
  refine s_valW ev_assign ?_
  refine s_nilW ?_
  refine x_norm ?_
  refine c_seqW ?_
  refine c_regionW ?_
  refine s_effW (d_buildSlice (len := 66) (el := 5) (cs := bA ordB2) (Own.begin w) (by kernel_rfl)) ?_
  rintro _ w1 ⟨b, rfl, H1⟩
  refine s_valW ev_assign ?_
  refine s_nilW ?_
  refine x_norm ?_
  refine c_retW ?_
  exact r_ret rfl rfl ⟨BytesR.of_block (bs := ordB2) (H1.heap1 0 rfl) (fun i x h => bA_get h), H1.toBelow⟩

theorem zGrp0 (hE : w.cell? ⟨0, 0, none⟩ = some (eofV q)) :
    Calls Tryz.prog 26 #[] w fun e w' => ∃ u, e = .returned u ∧ ((∃ cv ord, u = .iface 71 (.agg #[cv, ord]) ∧ Grp (wR w') 0 cv ord) ∧ Below w.heap.size w w') := by
  refine bodyW (n := 6) (args := []) Tryz.func26 rfl rfl rfl ?_
  refine c_seqW ?_
  refine c_regionW ?_
  refine s_valW ev_assign ?_
  refine s_nilW ?_
  refine x_norm ?_
  refine c_seqW ?_
  refine c_regionW ?_
  refine s_effW (d_call Tryz.call31 (zParams0 hE)) ?_
  rintro _ w1 ⟨⟨pb, cs, rfl, hpb, hcs⟩, B1⟩
  refine s_valW (ev_mkIface Tryz.underlying65 rfl) ?_
  refine s_effW (d_call Tryz.call32 zOrd0) ?_
  rintro od w2 ⟨ho, B2⟩
  obtain ⟨p, k, rfl⟩ := ho.slice
  refine s_valW (v := .agg #[.iface 65 (.pointer (some ⟨pb, 0, none⟩)), .slice p ordB0.length k]) (by unfold Ev; kernel_rfl) ?_
  refine s_valW (ev_mkIface Tryz.underlying71 rfl) ?_
  refine s_valW ev_assign ?_
  refine s_nilW ?_
  refine x_norm ?_
  refine c_retW ?_
  exact r_ret rfl rfl ⟨⟨_, _, rfl, ⟨ho, pb, cs, _, 256, rfl, Sl.Below.rd B2 _ _ hpb, hcs, by decide, by decide⟩⟩, Sl.Below.trans' B1 B2⟩

theorem zGrp1 (hE : w.cell? ⟨0, 0, none⟩ = some (eofV q)) :
    Calls Tryz.prog 24 #[] w fun e w' => ∃ u, e = .returned u ∧ ((∃ cv ord, u = .iface 71 (.agg #[cv, ord]) ∧ Grp (wR w') 1 cv ord) ∧ Below w.heap.size w w') := by
  refine bodyW (n := 6) (args := []) Tryz.func24 rfl rfl rfl ?_
  refine c_seqW ?_
  refine c_regionW ?_
  refine s_valW ev_assign ?_
  refine s_nilW ?_
  refine x_norm ?_
  refine c_seqW ?_
  refine c_regionW ?_
  refine s_effW (d_call Tryz.call27 (zParams1 hE)) ?_
  rintro _ w1 ⟨⟨pb, cs, rfl, hpb, hcs⟩, B1⟩
  refine s_valW (ev_mkIface Tryz.underlying65 rfl) ?_
  refine s_effW (d_call Tryz.call28 zOrd1) ?_
  rintro od w2 ⟨ho, B2⟩
  obtain ⟨p, k, rfl⟩ := ho.slice
  refine s_valW (v := .agg #[.iface 65 (.pointer (some ⟨pb, 0, none⟩)), .slice p ordB1.length k]) (by unfold Ev; kernel_rfl) ?_
  refine s_valW (ev_mkIface Tryz.underlying71 rfl) ?_
  refine s_valW ev_assign ?_
  refine s_nilW ?_
  refine x_norm ?_
  refine c_retW ?_
  exact r_ret rfl rfl ⟨⟨_, _, rfl, ⟨ho, pb, cs, _, 384, rfl, Sl.Below.rd B2 _ _ hpb, hcs, by decide, by decide⟩⟩, Sl.Below.trans' B1 B2⟩

theorem zGrp2 (hE : w.cell? ⟨0, 0, none⟩ = some (eofV q)) :
    Calls Tryz.prog 25 #[] w fun e w' => ∃ u, e = .returned u ∧ ((∃ cv ord, u = .iface 71 (.agg #[cv, ord]) ∧ Grp (wR w') 2 cv ord) ∧ Below w.heap.size w w') := by
  refine bodyW (n := 6) (args := []) Tryz.func25 rfl rfl rfl ?_
  refine c_seqW ?_
  refine c_regionW ?_
  refine s_valW ev_assign ?_
  refine s_nilW ?_
  refine x_norm ?_
  refine c_seqW ?_
  refine c_regionW ?_
  refine s_effW (d_call Tryz.call29 (zParams2 hE)) ?_
  rintro _ w1 ⟨⟨pb, cs, rfl, hpb, hcs⟩, B1⟩
  refine s_valW (ev_mkIface Tryz.underlying65 rfl) ?_
  refine s_effW (d_call Tryz.call30 zOrd2) ?_
  rintro od w2 ⟨ho, B2⟩
  obtain ⟨p, k, rfl⟩ := ho.slice
  refine s_valW (v := .agg #[.iface 65 (.pointer (some ⟨pb, 0, none⟩)), .slice p ordB2.length k]) (by unfold Ev; kernel_rfl) ?_
  refine s_valW (ev_mkIface Tryz.underlying71 rfl) ?_
  refine s_valW ev_assign ?_
  refine s_nilW ?_
  refine x_norm ?_
  refine c_retW ?_
  exact r_ret rfl rfl ⟨⟨_, _, rfl, ⟨ho, pb, cs, _, 521, rfl, Sl.Below.rd B2 _ _ hpb, hcs, by decide, by decide⟩⟩, Sl.Below.trans' B1 B2⟩

theorem zGroupOf (c : Int) (hc : 0 ≤ c ∧ c ≤ 2) (hE : w.cell? ⟨0, 0, none⟩ = some (eofV q)) :
    Calls Tryz.prog 16 #[.int .i64 c] w fun e w' => ∃ u, e = .returned u ∧ ((∃ cv ord, u = .iface 71 (.agg #[cv, ord]) ∧ Grp (wR w') c cv ord) ∧ Below w.heap.size w w') := by
  refine bodyW (n := 11) (args := [.int .i64 c]) Tryz.func16 rfl rfl rfl ?_
  obtain rfl | rfl | rfl : c = 0 ∨ c = 1 ∨ c = 2 := by omega
  · refine c_seqW ?_
    refine c_regionW ?_
    refine s_valW ev_assign ?_
    refine s_nilW ?_
    refine x_norm ?_
    refine c_seqW ?_
    refine c_seqW ?_
    refine c_regionW ?_
    refine s_valW ev_move ?_
    refine s_nilW ?_
    refine x_norm ?_
    refine c_blockW ?_
    refine c_seqW ?_
    refine c_regionW ?_
    refine s_valW (ev_eq_f rfl rfl (by decide)) ?_
    refine s_valW ev_assign ?_
    refine s_nilW ?_
    refine x_norm ?_
    refine c_falseW rfl ?_
    refine c_seqW ?_
    refine c_regionW ?_
    refine s_valW (ev_eq_f rfl rfl (by decide)) ?_
    refine s_valW ev_assign ?_
    refine s_nilW ?_
    refine x_norm ?_
    refine c_falseW rfl ?_
    refine c_skipW ?_
    refine x_normb ?_
    refine x_norm ?_
    refine c_seqW ?_
    refine c_regionW ?_
    refine s_effW (d_call Tryz.call26 (zGrp0 hE)) ?_
    rintro _ w1 ⟨⟨cv, od, rfl, hg⟩, B1⟩
    refine s_valW ev_assign ?_
    refine s_nilW ?_
    refine x_norm ?_
    refine c_retW ?_
    exact r_ret rfl rfl ⟨⟨cv, od, rfl, hg⟩, B1⟩
  · refine c_seqW ?_
    refine c_regionW ?_
    refine s_valW ev_assign ?_
    refine s_nilW ?_
    refine x_norm ?_
    refine c_seqW ?_
    refine c_seqW ?_
    refine c_regionW ?_
    refine s_valW ev_move ?_
    refine s_nilW ?_
    refine x_norm ?_
    refine c_blockW ?_
    refine c_seqW ?_
    refine c_regionW ?_
    refine s_valW (ev_eq_t rfl rfl (by decide)) ?_
    refine s_valW ev_assign ?_
    refine s_nilW ?_
    refine x_norm ?_
    refine c_trueW rfl ?_
    refine c_seqW ?_
    refine c_regionW ?_
    refine s_effW (d_call Tryz.call24 (zGrp1 hE)) ?_
    rintro _ w1 ⟨⟨cv, od, rfl, hg⟩, B1⟩
    refine s_valW ev_assign ?_
    refine s_nilW ?_
    refine x_norm ?_
    refine c_retW ?_
    refine x_retb ?_
    refine x_ret ?_
    exact r_ret rfl rfl ⟨⟨cv, od, rfl, hg⟩, B1⟩
  · refine c_seqW ?_
    refine c_regionW ?_
    refine s_valW ev_assign ?_
    refine s_nilW ?_
    refine x_norm ?_
    refine c_seqW ?_
    refine c_seqW ?_
    refine c_regionW ?_
    refine s_valW ev_move ?_
    refine s_nilW ?_
    refine x_norm ?_
    refine c_blockW ?_
    refine c_seqW ?_
    refine c_regionW ?_
    refine s_valW (ev_eq_f rfl rfl (by decide)) ?_
    refine s_valW ev_assign ?_
    refine s_nilW ?_
    refine x_norm ?_
    refine c_falseW rfl ?_
    refine c_seqW ?_
    refine c_regionW ?_
    refine s_valW (ev_eq_t rfl rfl (by decide)) ?_
    refine s_valW ev_assign ?_
    refine s_nilW ?_
    refine x_norm ?_
    refine c_trueW rfl ?_
    refine c_seqW ?_
    refine c_regionW ?_
    refine s_effW (d_call Tryz.call25 (zGrp2 hE)) ?_
    rintro _ w1 ⟨⟨cv, od, rfl, hg⟩, B1⟩
    refine s_valW ev_assign ?_
    refine s_nilW ?_
    refine x_norm ?_
    refine c_retW ?_
    refine x_retb ?_
    refine x_ret ?_
    exact r_ret rfl rfl ⟨⟨cv, od, rfl, hg⟩, B1⟩
end
end Go.Proofs.YtgikfcmcgpcckaaGreatDoor
