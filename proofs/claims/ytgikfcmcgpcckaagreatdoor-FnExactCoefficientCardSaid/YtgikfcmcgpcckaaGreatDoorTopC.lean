/-
  FnExactCoefficient: for every curve number, every slice of byte slices and every place the law returns true, and the arguments read afterwards as before (the tied card; condition: io.EOF reads as the program text lays it).
-/
import Derived.Test.YtgikfcmcgpcckaaGreatDoorTop2
namespace Go.Proofs.YtgikfcmcgpcckaaGreatDoor
open Go Go.RowKit Sl Go.ChangeShapes Go.WideShapes Go.ChangeAt Go.Deep
theorem readsCoef (os : Os) {H : Type} (enc : TypeId × Value → H) : ∃ x, DataW.whole enc Tryz.prog ((World.doorLaid Tryz.prog 400 os).forCall (fun _ _ => 0) ⟨#[], #[Value.int .i64 0, Value.slice none 0 0, Value.int .i64 0], []⟩).memory Tryz.f4.params.toList Rows.fnExactCoefficientSpec.vars false (#[Value.int .i64 0, Value.slice none 0 0, Value.int .i64 0] : Array Value).toList 8 = some x :=
  Option.isSome_iff_exists.1 (by kernel_rfl)

set_option maxRecDepth 100000 in
theorem liftedCoef (os : Os) (started : os.Started) (H : Type) (enc : TypeId × Value → H) (F : Stop.Interp) :
    ReturnsInHanded {} Tryz.checked os 4 .any ((OpenSpec.ofChange Rows.fnExactCoefficientSpec).preRow enc Tryz.prog Tryz.f4 Rows.fnExactCoefficientRow.domain false Rows.fnExactCoefficientRow.laid) (((OpenSpec.ofChange Rows.fnExactCoefficientSpec).at F).post enc Tryz.prog Tryz.f4 false true false false) := by
  obtain ⟨x0, hx⟩ := readsCoef os enc
  refine returnsInHanded_of_row (C := Tryz.checked) (s := OpenSpec.ofChange Rows.fnExactCoefficientSpec) Tryz.own started (by kernel_rfl) Tryz.func4
    (witness_row_at (enc := enc) (C := Tryz.checked) false (World.doorLaid Tryz.prog 400 os) #[Value.int .i64 0, Value.slice none 0 0, Value.int .i64 0] rfl (by kernel_rfl) (by kernel_rfl) (by kernel_rfl)
      (OpenSpec.preRow_of_cond 8 hx (by kernel_rfl) (fun k hk => by cases hk) (by kernel_rfl) (metCoef os _))) ?_
  intro W base args ds gs before hval hW _ _ _ hL _ _
  exact contractCoef H enc W base args ds gs before hval hW hL

theorem saidCoef : Rows.FnExactCoefficientSaid :=
  OpenClaim.holds_of_cond 4 Tryz.f4 rfl rfl rfl rfl rfl rfl rfl ⟨rfl, rfl, rfl, rfl, rfl⟩ rfl rfl rfl rfl rfl (by kernel_rfl) Tryz.func4 (by kernel_rfl)
    (of_decide_eq_true (by kernel_rfl)) (by unfold Func.isWrapper; first | (rw [if_pos (by decide +kernel)]; kernel_rfl) | (rw [if_neg (by decide +kernel)]; exact ⟨rfl, rfl⟩))
    (fun os started H enc _ F => by rw [OpenClaim.pre_eq_preRow]; exact liftedCoef os started H enc F)

theorem plainCoef (f : FuncId) (fn : Func) (hf : Tryz.pinned.checked.prog.funcNamed "loop.example/pub-sharesofsecrets/laws.FnExactCoefficient" = some f) (hfn : Tryz.pinned.checked.prog.funcs[f]? = some fn) :
    true = Tryz.pinned.checked.prog.looks [] ∧ ∀ (j : Nat) t, fn.params[j]? = some t → Tryz.pinned.checked.prog.wantsStandIn t = false := by
  obtain rfl : f = 4 := Option.some.inj ((show Tryz.prog.funcNamed "loop.example/pub-sharesofsecrets/laws.FnExactCoefficient" = some 4 by kernel_rfl).symm.trans hf) |>.symm
  obtain rfl : fn = Tryz.f4 := (Option.some.inj (Tryz.func4.symm.trans hfn)).symm
  refine ⟨by kernel_rfl, fun j t ht => ?_⟩
  rw [Tryz.params4] at ht
  have ht2 : t = 3 ∨ t = 22 ∨ t = 3 := by simpa using Array.mem_of_getElem? ht
  rcases ht2 with rfl | rfl | rfl
  · exact (show Tryz.prog.wantsStandIn 3 = false by kernel_rfl)
  · exact (show Tryz.prog.wantsStandIn 22 = false by kernel_rfl)
  · exact (show Tryz.prog.wantsStandIn 3 = false by kernel_rfl)

theorem cardCoef : Rows.FnExactCoefficientCardSaid :=
  Claim7.holds_tied_plain_at .later [] _ _ _ _ saidCoef (fun _ h => by cases h) (by kernel_rfl) (fun _ h => by cases h) fnExactCoefficient_row_tie rfl ⟨rfl, rfl⟩ (by kernel_rfl) rfl plainCoef (by kernel_rfl)


end Go.Proofs.YtgikfcmcgpcckaaGreatDoor
