/- Walks through functions of the program: each call comes to what its theorem says. A part of the proofs of FnExactDegree and FnExactCoefficient. -/
import Derived.Test.YtgikfcmcgpcckaaGreatDoorSp3
namespace Go.Proofs.YtgikfcmcgpcckaaGreatDoor
open Go Go.RowKit Sl

def cvWords0 : List Nat := [18446744073709551615, 4294967295, 0, 18446744069414584321, 0, 0, 0, 0, 0, 4309448131093880907, 7285987128567378166, 12964664127075681980, 6540974713487397863, 0, 0, 0, 0, 0, 17562291160714782033, 13611842547513532036, 18446744073709551615, 18446744069414584320, 0, 0, 0, 0, 0, 17627433388654248598, 8575836109218198432, 17923454489921339634, 7716867327612699207, 0, 0, 0, 0, 0, 14678990851816772085, 3156516839386865358, 10297457778147434006, 5756518291402817435, 0, 0, 0, 0, 0]
def ordWords0 : List Nat := [17562291160714782033, 13611842547513532036, 18446744073709551615, 18446744069414584320, 0, 0, 0, 0, 0]
def cvCells0 : Array Value := nA cvWords0 ++ #[.int .i64 32]
def cvPart0_0 : List Nat := [18446744073709551615, 4294967295, 0, 18446744069414584321, 0, 0, 0, 0, 0]
def cvPart0_1 : List Nat := [4309448131093880907, 7285987128567378166, 12964664127075681980, 6540974713487397863, 0, 0, 0, 0, 0]
def cvPart0_2 : List Nat := [17562291160714782033, 13611842547513532036, 18446744073709551615, 18446744069414584320, 0, 0, 0, 0, 0]
def cvPart0_3 : List Nat := [17627433388654248598, 8575836109218198432, 17923454489921339634, 7716867327612699207, 0, 0, 0, 0, 0]
def cvPart0_4 : List Nat := [14678990851816772085, 3156516839386865358, 10297457778147434006, 5756518291402817435, 0, 0, 0, 0, 0]
def cvWords1 : List Nat := [4294967295, 18446744069414584320, 18446744073709551614, 18446744073709551615, 18446744073709551615, 18446744073709551615, 0, 0, 0, 3064076045283764975, 14291673747578343837, 221811693264799578, 1737717031765098770, 10992729701402291481, 12912154004749740004, 0, 0, 0, 17072048233947408755, 6348401684107011962, 14367412456785391071, 18446744073709551615, 18446744073709551615, 18446744073709551615, 0, 0, 0, 4203087948775033527, 6125724927633205612, 6482722621138151992, 7934563412932533144, 10282218360005504372, 12288012358878168375, 0, 0, 0, 8809917716911230559, 747793036959711645, 16850834916486723776, 17938995913990739068, 6745997240412855337, 3897828414440483951, 0, 0, 0]
def ordWords1 : List Nat := [17072048233947408755, 6348401684107011962, 14367412456785391071, 18446744073709551615, 18446744073709551615, 18446744073709551615, 0, 0, 0]
def cvCells1 : Array Value := nA cvWords1 ++ #[.int .i64 48]
def cvPart1_0 : List Nat := [4294967295, 18446744069414584320, 18446744073709551614, 18446744073709551615, 18446744073709551615, 18446744073709551615, 0, 0, 0]
def cvPart1_1 : List Nat := [3064076045283764975, 14291673747578343837, 221811693264799578, 1737717031765098770, 10992729701402291481, 12912154004749740004, 0, 0, 0]
def cvPart1_2 : List Nat := [17072048233947408755, 6348401684107011962, 14367412456785391071, 18446744073709551615, 18446744073709551615, 18446744073709551615, 0, 0, 0]
def cvPart1_3 : List Nat := [4203087948775033527, 6125724927633205612, 6482722621138151992, 7934563412932533144, 10282218360005504372, 12288012358878168375, 0, 0, 0]
def cvPart1_4 : List Nat := [8809917716911230559, 747793036959711645, 16850834916486723776, 17938995913990739068, 6745997240412855337, 3897828414440483951, 0, 0, 0]
def cvWords2 : List Nat := [18446744073709551615, 18446744073709551615, 18446744073709551615, 18446744073709551615, 18446744073709551615, 18446744073709551615, 18446744073709551615, 18446744073709551615, 511, 17241221745651760896, 3851667882566759665, 1608559935907544839, 6204052985702421371, 13309414057048082913, 11734817516813489651, 10563792850091589870, 10754236788854528543, 81, 13506215149420700681, 4302566813442262958, 9208736750959699408, 5874531763869423211, 18446744073709551610, 18446744073709551615, 18446744073709551615, 18446744073709551615, 511, 17977945514697932134, 3695401138005885595, 18311004035940853982, 11622487132578732328, 17881735149126499770, 11269274249489003809, 11402774946092790850, 9623636836853541325, 198, 9853476271941576272, 3836064706166178368, 14218067438623065953, 10947813747232876096, 1706790690937005612, 11021790744852251752, 6668247425720589273, 4118940400423256068, 280]
def ordWords2 : List Nat := [13506215149420700681, 4302566813442262958, 9208736750959699408, 5874531763869423211, 18446744073709551610, 18446744073709551615, 18446744073709551615, 18446744073709551615, 511]
def cvCells2 : Array Value := nA cvWords2 ++ #[.int .i64 66]
def cvPart2_0 : List Nat := [18446744073709551615, 18446744073709551615, 18446744073709551615, 18446744073709551615, 18446744073709551615, 18446744073709551615, 18446744073709551615, 18446744073709551615, 511]
def cvPart2_1 : List Nat := [17241221745651760896, 3851667882566759665, 1608559935907544839, 6204052985702421371, 13309414057048082913, 11734817516813489651, 10563792850091589870, 10754236788854528543, 81]
def cvPart2_2 : List Nat := [13506215149420700681, 4302566813442262958, 9208736750959699408, 5874531763869423211, 18446744073709551610, 18446744073709551615, 18446744073709551615, 18446744073709551615, 511]
def cvPart2_3 : List Nat := [17977945514697932134, 3695401138005885595, 18311004035940853982, 11622487132578732328, 17881735149126499770, 11269274249489003809, 11402774946092790850, 9623636836853541325, 198]
def cvPart2_4 : List Nat := [9853476271941576272, 3836064706166178368, 14218067438623065953, 10947813747232876096, 1706790690937005612, 11021790744852251752, 6668247425720589273, 4118940400423256068, 280]

def ordW (c : Int) : List Nat := if c = 1 then ordWords1 else if c = 2 then ordWords2 else ordWords0
def szOf (c : Int) : Nat := if c = 1 then 48 else if c = 2 then 66 else 32
structure CurveCells (c : Int) (cs : Array Value) : Prop where
  size : cs.size = 46
  one : ∀ v ∈ cs.toList, v.oneCell' = true
  order : cs.extract 18 27 = nA (ordW c)
  sz : cs[45]? = some (.int .i64 (szOf c : Nat))
theorem ordW_len (c : Int) : (ordW c).length = 9 := by unfold ordW; split; rfl; split <;> rfl
theorem ordW_lt (c : Int) : ∀ y ∈ ordW c, y < 18446744073709551616 := by unfold ordW; split; decide; split <;> decide
theorem all_one (cs : Array Value) (h : cs.toList.all (fun v => v.oneCell') = true) : ∀ v ∈ cs.toList, v.oneCell' = true := fun v hv => List.all_eq_true.1 h v hv
theorem curve0 : CurveCells 0 cvCells0 := ⟨rfl, all_one _ (by kernel_rfl), by kernel_rfl, by kernel_rfl⟩
theorem curve1 : CurveCells 1 cvCells1 := ⟨rfl, all_one _ (by kernel_rfl), by kernel_rfl, by kernel_rfl⟩
theorem curve2 : CurveCells 2 cvCells2 := ⟨rfl, all_one _ (by kernel_rfl), by kernel_rfl, by kernel_rfl⟩
def z46 : Array Value := nA (List.replicate 45 0) ++ #[.int .i64 0]

theorem zCurveOf (c : Int) (hc : 0 ≤ c ∧ c ≤ 2) (w : World) :
    Calls Tryz.prog 20 #[.int .i64 c] w fun e w' => ∃ u, e = .returned u ∧ ((∃ cs, u = .agg cs ∧ CurveCells c cs) ∧ Below w.heap.size w w') := by
  refine bodyW (n := 26) (args := [.int .i64 c]) Tryz.func20 rfl rfl rfl ?_
  obtain rfl | rfl | rfl : c = 0 ∨ c = 1 ∨ c = 2 := by omega
  · refine c_seqW ?_
    refine c_regionW ?_
    refine s_effW (d_alloc (cs := z46) (Own.begin w) Tryz.zeroT52 rfl) ?_
    rintro _ w1 ⟨b2, rfl, H1⟩
    refine s_nilW ?_
    refine x_norm ?_
    refine c_seqW ?_
    refine c_seqW ?_
    refine c_regionW ?_
    refine s_valW ev_move ?_
    refine s_nilW ?_
    refine x_norm ?_
    refine c_blockW ?_
    refine c_seqW ?_
    refine c_regionW ?_
    refine s_valW (ev_eq_f rfl rfl (by decide)) ?_
    refine s_valW ev_assign ?_
    refine s_nilW ?_
    refine x_norm ?_
    refine c_falseW rfl ?_
    refine c_seqW ?_
    refine c_regionW ?_
    refine s_valW (ev_eq_f rfl rfl (by decide)) ?_
    refine s_valW ev_assign ?_
    refine s_nilW ?_
    refine x_norm ?_
    refine c_falseW rfl ?_
    refine c_skipW ?_
    refine x_normb ?_
    refine x_norm ?_
    refine c_seqW ?_
    refine c_regionW ?_
    refine s_valW ((by unfold Ev; kernel_rfl : Ev Tryz.prog _ _ _ _ (.agg (nA cvPart0_0)))) ?_
    refine s_valW ((by unfold Ev; kernel_rfl : Ev Tryz.prog _ _ _ _ (.agg (nA cvPart0_1)))) ?_
    refine s_valW ((by unfold Ev; kernel_rfl : Ev Tryz.prog _ _ _ _ (.agg (nA cvPart0_2)))) ?_
    refine s_valW ((by unfold Ev; kernel_rfl : Ev Tryz.prog _ _ _ _ (.agg (nA cvPart0_3)))) ?_
    refine s_valW ((by unfold Ev; kernel_rfl : Ev Tryz.prog _ _ _ _ (.agg (nA cvPart0_4)))) ?_
    refine s_valW (v := .agg cvCells0) (by unfold Ev; kernel_rfl) ?_
    refine s_eff0W (d_store (vs := cvCells0) (t := 52) H1 0 rfl rfl rfl (b := b2) (cs := z46) (tt := 52) (one_at _ _) Tryz.szT52 rfl curve0.one (by decide)) ?_
    rintro _ w3 H3
    rw [splice_all (by rfl)] at H3
    refine s_nilW ?_
    refine x_norm ?_
    refine c_retW ?_
    refine r_retc rfl rfl rfl Tryz.underlying52 rfl Tryz.szT52 (H3.heap (i := 0) rfl (put_at _ _ _)) (by decide) ⟨⟨cvCells0, ?_, curve0⟩, H3.toBelow⟩
    congr 1
  · refine c_seqW ?_
    refine c_regionW ?_
    refine s_effW (d_alloc (cs := z46) (Own.begin w) Tryz.zeroT52 rfl) ?_
    rintro _ w1 ⟨b2, rfl, H1⟩
    refine s_nilW ?_
    refine x_norm ?_
    refine c_seqW ?_
    refine c_seqW ?_
    refine c_regionW ?_
    refine s_valW ev_move ?_
    refine s_nilW ?_
    refine x_norm ?_
    refine c_blockW ?_
    refine c_seqW ?_
    refine c_regionW ?_
    refine s_valW (ev_eq_t rfl rfl rfl) ?_
    refine s_valW ev_assign ?_
    refine s_nilW ?_
    refine x_norm ?_
    refine c_trueW rfl ?_
    refine c_seqW ?_
    refine c_regionW ?_
    refine s_valW ((by unfold Ev; kernel_rfl : Ev Tryz.prog _ _ _ _ (.agg (nA cvPart1_0)))) ?_
    refine s_valW ((by unfold Ev; kernel_rfl : Ev Tryz.prog _ _ _ _ (.agg (nA cvPart1_1)))) ?_
    refine s_valW ((by unfold Ev; kernel_rfl : Ev Tryz.prog _ _ _ _ (.agg (nA cvPart1_2)))) ?_
    refine s_valW ((by unfold Ev; kernel_rfl : Ev Tryz.prog _ _ _ _ (.agg (nA cvPart1_3)))) ?_
    refine s_valW ((by unfold Ev; kernel_rfl : Ev Tryz.prog _ _ _ _ (.agg (nA cvPart1_4)))) ?_
    refine s_valW (v := .agg cvCells1) (by unfold Ev; kernel_rfl) ?_
    refine s_eff0W (d_store (vs := cvCells1) (t := 52) H1 0 rfl rfl rfl (b := b2) (cs := z46) (tt := 52) (one_at _ _) Tryz.szT52 rfl curve1.one (by decide)) ?_
    rintro _ w3 H3
    rw [splice_all (by rfl)] at H3
    refine s_nilW ?_
    refine x_norm ?_
    refine c_retW ?_
    refine x_retb ?_
    refine x_ret ?_
    refine r_retc rfl rfl rfl Tryz.underlying52 rfl Tryz.szT52 (H3.heap (i := 0) rfl (put_at _ _ _)) (by decide) ⟨⟨cvCells1, ?_, curve1⟩, H3.toBelow⟩
    congr 1
  · refine c_seqW ?_
    refine c_regionW ?_
    refine s_effW (d_alloc (cs := z46) (Own.begin w) Tryz.zeroT52 rfl) ?_
    rintro _ w1 ⟨b2, rfl, H1⟩
    refine s_nilW ?_
    refine x_norm ?_
    refine c_seqW ?_
    refine c_seqW ?_
    refine c_regionW ?_
    refine s_valW ev_move ?_
    refine s_nilW ?_
    refine x_norm ?_
    refine c_blockW ?_
    refine c_seqW ?_
    refine c_regionW ?_
    refine s_valW (ev_eq_f rfl rfl (by decide)) ?_
    refine s_valW ev_assign ?_
    refine s_nilW ?_
    refine x_norm ?_
    refine c_falseW rfl ?_
    refine c_seqW ?_
    refine c_regionW ?_
    refine s_valW (ev_eq_t rfl rfl rfl) ?_
    refine s_valW ev_assign ?_
    refine s_nilW ?_
    refine x_norm ?_
    refine c_trueW rfl ?_
    refine c_seqW ?_
    refine c_regionW ?_
    refine s_valW ((by unfold Ev; kernel_rfl : Ev Tryz.prog _ _ _ _ (.agg (nA cvPart2_0)))) ?_
    refine s_valW ((by unfold Ev; kernel_rfl : Ev Tryz.prog _ _ _ _ (.agg (nA cvPart2_1)))) ?_
    refine s_valW ((by unfold Ev; kernel_rfl : Ev Tryz.prog _ _ _ _ (.agg (nA cvPart2_2)))) ?_
    refine s_valW ((by unfold Ev; kernel_rfl : Ev Tryz.prog _ _ _ _ (.agg (nA cvPart2_3)))) ?_
    refine s_valW ((by unfold Ev; kernel_rfl : Ev Tryz.prog _ _ _ _ (.agg (nA cvPart2_4)))) ?_
    refine s_valW (v := .agg cvCells2) (by unfold Ev; kernel_rfl) ?_
    refine s_eff0W (d_store (vs := cvCells2) (t := 52) H1 0 rfl rfl rfl (b := b2) (cs := z46) (tt := 52) (one_at _ _) Tryz.szT52 rfl curve2.one (by decide)) ?_
    rintro _ w3 H3
    rw [splice_all (by rfl)] at H3
    refine s_nilW ?_
    refine x_norm ?_
    refine c_retW ?_
    refine x_retb ?_
    refine x_ret ?_
    refine r_retc rfl rfl rfl Tryz.underlying52 rfl Tryz.szT52 (H3.heap (i := 0) rfl (put_at _ _ _)) (by decide) ⟨⟨cvCells2, ?_, curve2⟩, H3.toBelow⟩
    congr 1
end Go.Proofs.YtgikfcmcgpcckaaGreatDoor
