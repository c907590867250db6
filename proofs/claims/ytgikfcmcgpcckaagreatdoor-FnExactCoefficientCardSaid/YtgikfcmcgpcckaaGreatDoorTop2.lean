/- Walks through functions of the program: each call comes to what its theorem says. A part of the proofs of FnExactDegree and FnExactCoefficient. -/
import Derived.Test.YtgikfcmcgpcckaaGreatDoorTop1
import Derived.Test.YtgikfcmcgpcckaaGreatDoorCards
import Derived.Test.YtgikfcmcgpcckaaGreatDoorTie
namespace Go.Proofs.YtgikfcmcgpcckaaGreatDoor
open Go Go.RowKit Sl Go.ChangeShapes Go.WideShapes Go.ChangeAt Go.Deep

set_option maxRecDepth 100000 in
/-- The slice of slices of bytes that came in, as rows. -/
theorem rows_in {H : Type} {enc : TypeId × Value → H} {W : World} {base : Nat} {v : Value} {d : DataW H} {ps : List MemPlace} (hval : Value.okWide Tryz.prog W .any base 22 v) (h : DataW.Trod enc Tryz.prog W 0 (fun _ => true) true 22 v d ps) :
    ∃ rows : List (List Nat), RowsR (wR W) v rows ∧ (∀ r ∈ rows, ∀ b ∈ r, b < 256) ∧ rows.length ≤ 9223372036854775807 := by
  obtain ⟨a0, len, cap, rfl⟩ := okWide_slice Tryz.underlying22 hval
  obtain ⟨fuel, hf⟩ := h
  rcases open_int_rows Tryz.underlying22 Tryz.underlying29 Tryz.underlying5 cells29 cells5 hf with ⟨hcs0, hx⟩ | ⟨a, len', cap', A, L, C, Z, hcs0, _, hl, hm, hx, hrows⟩
  · simp [Value.cells] at hcs0
    obtain ⟨rfl, rfl, rfl⟩ := hcs0
    exact ⟨[], .inl ⟨_, _, rfl, rfl⟩, fun r hr => (by cases hr), Nat.zero_le _⟩
  · simp [Value.cells] at hcs0
    obtain ⟨rfl, rfl, rfl⟩ := hcs0
    refine ⟨rowsOf len L Z, rowsR_of (A := A) (C := C) hl (fun r hr => ?_), rowsOf_lt (fun r hr => (hrows r (by omega)).2.2.2.2.1), ?_⟩
    · obtain ⟨h1, h2, _, h4, h5, h6, h7⟩ := hrows r hr
      exact ⟨h1, h2, h4, h5, h6, fun a' ha' c hc => (h7 a' ha').2 c hc⟩
    · rw [rowsOf_len]
      have : maxLen = 9223372036854775807 := rfl
      omega

set_option maxRecDepth 100000 in
/-- For every argument and every world that holds the listed variables. -/
theorem contractDegree (H : Type) (enc : TypeId × Value → H) (W : World) (base : Nat) (args : Array Value) (ds gs : List (DataW H)) (before : List MemPlace)
    (hval : ∀ (j : Nat) t v, Tryz.f3.params[j]? = some t → args[j]? = some v → Value.okWide Tryz.prog W .any base t v)
    (hW : DataW.Whole enc Tryz.prog Tryz.f3.params.toList Rows.fnExactDegreeSpec.vars false W args.toList ds gs before) (hL : laidMetH Tryz.prog Rows.fnExactDegreeRow.laid W) :
    Calls Tryz.prog 3 args W fun e W' => ∃ v, e = .returned v ∧ Rows.fnExactDegreeSpec.post enc Tryz.prog Tryz.f3 false true false false W args v W' := by
  have hW' := hW
  obtain ⟨p, q, hA0, hV, rfl, hfz, hnd⟩ := hW
  have hA : DataW.TrodAll enc Tryz.prog W 0 (fun _ => true) true Tryz.f3.params.toList args.toList ds p := hA0
  rw [Tryz.params3] at hA hval
  obtain ⟨v0, v1, d0, d1, p0, p1, rfl, rfl, rfl, h0, h1⟩ := trodAll_two hA
  rw [MakeChecks.laidMetH_plain _ _ _ (by kernel_rfl)] at hL
  obtain ⟨qa, hE⟩ := eof_of_laid hL
  have hV2 := hV
  obtain ⟨_, _, _, _, g0, _, _, _, _, _, g1, _, rfl, _⟩ := trodVars_two hV2
  have hlt0 := hW'.lt
  have hlt : ∀ x ∈ p0 ++ p1, x.block < W.heap.size := fun x hx => hlt0 x (List.mem_append_left _ hx)
  obtain ⟨c, rfl⟩ := okWide_int Tryz.underlying3 (hval 0 3 v0 rfl rfl)
  obtain ⟨rows, hr, hb256, hm⟩ := rows_in (hval 1 22 v1 rfl rfl) h1
  refine (zLawDegree c v1 rows hE hr hb256 hm).mono fun e W' ⟨u, he, hu, hb⟩ => ?_
  subst he
  subst hu
  refine ⟨_, rfl, _, _, _, [], p0 ++ p1, q, hW', ?_, ?_, ?_, hb.frame _, fun h => by cases h⟩
  · exact trodAll_cons_mk (shut_bool Tryz.underlying4 _) trodAll_mk0
  · rw [Tryz.params3]
    exact trodAll_mk2 (Below.trod Tryz.laidOut (by kernel_rfl) (of_decide_eq_true (by kernel_rfl)) h0 hb (fun x hx => hlt x (by simp [hx]))) (Below.trod Tryz.laidOut (by kernel_rfl) (of_decide_eq_true (by kernel_rfl)) h1 hb (fun x hx => hlt x (by simp [hx])))
  · exact Below.trodVars Tryz.laidOut hb (by kernel_rfl) hV

theorem metDegree (os : Os) (args : Array Value) : laidMetH Tryz.prog Rows.fnExactDegreeRow.laid ((World.doorLaid Tryz.prog 400 os).forCall (fun _ _ => 0) ⟨#[], args, []⟩).memory :=
  laidMetH_of_parts3 (fuel := 8) (laidMet_of_run' 8 (by kernel_rfl) (by kernel_rfl)) (by kernel_rfl) (by kernel_rfl)

set_option maxRecDepth 100000 in
/-- For every argument and every world that holds the listed variables. -/
theorem contractCoef (H : Type) (enc : TypeId × Value → H) (W : World) (base : Nat) (args : Array Value) (ds gs : List (DataW H)) (before : List MemPlace)
    (hval : ∀ (j : Nat) t v, Tryz.f4.params[j]? = some t → args[j]? = some v → Value.okWide Tryz.prog W .any base t v)
    (hW : DataW.Whole enc Tryz.prog Tryz.f4.params.toList Rows.fnExactCoefficientSpec.vars false W args.toList ds gs before) (hL : laidMetH Tryz.prog Rows.fnExactCoefficientRow.laid W) :
    Calls Tryz.prog 4 args W fun e W' => ∃ v, e = .returned v ∧ Rows.fnExactCoefficientSpec.post enc Tryz.prog Tryz.f4 false true false false W args v W' := by
  have hW' := hW
  obtain ⟨p, q, hA0, hV, rfl, hfz, hnd⟩ := hW
  have hA : DataW.TrodAll enc Tryz.prog W 0 (fun _ => true) true Tryz.f4.params.toList args.toList ds p := hA0
  rw [Tryz.params4] at hA hval
  obtain ⟨v0, v1, v2, d0, d1, d2, p0, p1, p2, rfl, rfl, rfl, h0, h1, h2⟩ := trodAll_three hA
  rw [MakeChecks.laidMetH_plain _ _ _ (by kernel_rfl)] at hL
  obtain ⟨qa, hE⟩ := eof_of_laid hL
  have hV2 := hV
  obtain ⟨_, _, _, _, g0, _, _, _, _, _, g1, _, rfl, _⟩ := trodVars_two hV2
  have hlt0 := hW'.lt
  have hlt : ∀ x ∈ p0 ++ p1 ++ p2, x.block < W.heap.size := fun x hx => hlt0 x (List.mem_append_left _ hx)
  obtain ⟨c, rfl⟩ := okWide_int Tryz.underlying3 (hval 0 3 v0 rfl rfl)
  obtain ⟨j, rfl⟩ := okWide_int Tryz.underlying3 (hval 2 3 v2 rfl rfl)
  obtain ⟨rows, hr, hb256, hm⟩ := rows_in (hval 1 22 v1 rfl rfl) h1
  refine (zLawCoef c v1 rows j hE hr hb256 hm).mono fun e W' ⟨u, he, hu, hb⟩ => ?_
  subst he
  subst hu
  refine ⟨_, rfl, _, _, _, [], p0 ++ (p1 ++ p2), q, hW', ?_, ?_, ?_, hb.frame _, fun h => by cases h⟩
  · exact trodAll_cons_mk (shut_bool Tryz.underlying4 _) trodAll_mk0
  · rw [Tryz.params4]
    exact trodAll_mk3 (Below.trod Tryz.laidOut (by kernel_rfl) (of_decide_eq_true (by kernel_rfl)) h0 hb (fun x hx => hlt x (by simp [hx]))) (Below.trod Tryz.laidOut (by kernel_rfl) (of_decide_eq_true (by kernel_rfl)) h1 hb (fun x hx => hlt x (by simp [hx]))) (Below.trod Tryz.laidOut (by kernel_rfl) (of_decide_eq_true (by kernel_rfl)) h2 hb (fun x hx => hlt x (by simp [hx])))
  · exact Below.trodVars Tryz.laidOut hb (by kernel_rfl) hV

theorem metCoef (os : Os) (args : Array Value) : laidMetH Tryz.prog Rows.fnExactCoefficientRow.laid ((World.doorLaid Tryz.prog 400 os).forCall (fun _ _ => 0) ⟨#[], args, []⟩).memory :=
  laidMetH_of_parts3 (fuel := 8) (laidMet_of_run' 8 (by kernel_rfl) (by kernel_rfl)) (by kernel_rfl) (by kernel_rfl)
end Go.Proofs.YtgikfcmcgpcckaaGreatDoor
