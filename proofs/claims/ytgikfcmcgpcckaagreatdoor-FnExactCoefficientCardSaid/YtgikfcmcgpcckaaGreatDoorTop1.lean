/- Walks through functions of the program: each call comes to what its theorem says. A part of the proofs of FnExactDegree and FnExactCoefficient. -/
import Derived.Test.YtgikfcmcgpcckaaGreatDoorLq2
import Derived.ProofKit
import Derived.OpenShut
import Derived.OpenVars
import Derived.Deep.DeepHandedRow
import Derived.Deep.Matrix
import Derived.LaidMore
import Derived.LaidLaws
import Derived.LaidHandle
import Derived.MakeChecks
import Derived.Stop.LaidErr
import Derived.Test.YtgikfcmcgpcckaaGreatDoorRows
namespace Go.Proofs.YtgikfcmcgpcckaaGreatDoor
open Go Go.RowKit Sl Go.ChangeShapes Go.WideShapes Go.ChangeAt Go.Deep

theorem cell_inv {w : World} {a : Addr} {v : Value} (h : w.cell? a = some v) : ∃ b o cs t fz, a = ⟨b, o, none⟩ ∧ w.heap[b]? = some (.cells cs t fz) ∧ cs[o]? = some v := by
  obtain ⟨b, o, sp⟩ := a
  unfold World.cell? at h
  cases hb : w.heap[b]? with
  | none => rw [hb] at h; cases h
  | some ob =>
    rw [hb] at h
    cases ob with
    | cells cs t fz =>
      cases sp with
      | some s => simp at h
      | none => exact ⟨b, o, cs, t, fz, rfl, hb, by simpa using h⟩
    | _ => cases h

theorem u8_wf {n : Int} (h : (Lit.int .u8 n).wf = true) : 0 ≤ n ∧ n ≤ 255 := by
  have e1 : IntKind.u8.min = 0 := by decide
  have e2 : IntKind.u8.max = 255 := by decide
  unfold Lit.wf at h
  rw [Bool.and_eq_true, decide_eq_true_eq, decide_eq_true_eq, e1, e2] at h
  exact h

theorem bytesR_of {w : World} {A : Option Addr} {l c : Nat} {zs : List Int} (hl : l ≤ c) (hz : zs.length = c) (hw : ∀ n ∈ zs, (Lit.int .u8 n).wf = true) (hn : A = none → c = 0)
    (hc : ∀ a', A = some a' → ∀ i, i < c → w.cell? (a'.add i) = some (.int .u8 (zs.getD i 0))) : BytesR (wR w) (.slice A l c) ((zs.take l).map Int.toNat) := by
  by_cases h0 : l = 0
  · subst h0
    exact .inl ⟨A, c, rfl, rfl⟩
  · cases A with
    | none => have := hn rfl; omega
    | some a =>
      obtain ⟨b, o, cs, t, fz, ha, hb, _⟩ := cell_inv (hc a rfl 0 (by omega))
      have ha' : a = ⟨b, o, none⟩ := by
        have : a.add 0 = a := by unfold Addr.add; rw [if_pos rfl]
        rw [← this, ha]
      subst ha'
      have hlen : ((zs.take l).map Int.toNat).length = l := by simp; omega
      refine .inr ⟨b, o, c, cs, t, fz, by rw [hlen], hb, fun i x hx => ?_⟩
      have hi : i < l := by rw [← hlen]; exact (List.getElem?_eq_some_iff.1 hx).1
      have h1 := hc _ rfl i (by omega)
      rw [add_off] at h1
      obtain ⟨b2, o2, cs2, t2, fz2, he, hb2, hv⟩ := cell_inv h1
      cases he
      rw [hb] at hb2
      cases hb2
      rw [hv]
      have hzi : zs[i]? = some (zs[i]'(by omega)) := by simp
      have hx2 : x = (zs[i]'(by omega)).toNat := by
        rw [List.getElem?_map, List.getElem?_take, if_pos hi, hzi] at hx
        exact (Option.some.inj hx).symm
      have hwf := hw _ (List.mem_of_getElem? hzi)
      rw [List.getD_eq_getElem?_getD, hzi, hx2]
      have h3 := (u8_wf hwf).1
      simp only [Option.getD_some]
      congr 2
      omega

/-- The rows of a slice of slices of bytes, as numbers. -/
def rowsOf (len : Nat) (L : Nat → Nat) (Z : Nat → List Int) : List (List Nat) := (List.range len).map fun r => ((Z r).take (L r)).map Int.toNat
theorem rowsOf_len (len : Nat) (L : Nat → Nat) (Z : Nat → List Int) : (rowsOf len L Z).length = len := by simp [rowsOf]
theorem rowsOf_get {len i : Nat} {L : Nat → Nat} {Z : Nat → List Int} {bs : List Nat} (h : (rowsOf len L Z)[i]? = some bs) : i < len ∧ bs = ((Z i).take (L i)).map Int.toNat := by
  have hi : i < len := by rw [← rowsOf_len len L Z]; exact (List.getElem?_eq_some_iff.1 h).1
  refine ⟨hi, ?_⟩
  unfold rowsOf at h
  rw [List.getElem?_map, List.getElem?_range hi] at h
  exact (Option.some.inj h).symm

theorem rowsR_of {w : World} {a : Addr} {len cap : Nat} {A : Nat → Option Addr} {L C : Nat → Nat} {Z : Nat → List Int} (hl : len ≤ cap)
    (h : ∀ r, r < cap → w.cell? (a.add r) = some (.slice (A r) (L r) (C r)) ∧ L r ≤ C r ∧ (Z r).length = C r ∧ (∀ n ∈ Z r, (Lit.int .u8 n).wf = true) ∧ (A r = none → C r = 0) ∧
      ∀ a', A r = some a' → ∀ c, c < C r → w.cell? (a'.add c) = some (.int .u8 ((Z r).getD c 0))) :
    RowsR (wR w) (.slice (some a) len cap) (rowsOf len L Z) := by
  by_cases h0 : len = 0
  · subst h0
    exact .inl ⟨some a, cap, rfl, rfl⟩
  · obtain ⟨b, o, cs, t, fz, ha, hb, _⟩ := cell_inv (h 0 (by omega)).1
    have ha' : a = ⟨b, o, none⟩ := by
      have : a.add 0 = a := by unfold Addr.add; rw [if_pos rfl]
      rw [← this, ha]
    subst ha'
    refine .inr ⟨b, o, cap, cs, t, fz, by rw [rowsOf_len], hb, fun i bs hi => ?_⟩
    obtain ⟨hil, rfl⟩ := rowsOf_get hi
    obtain ⟨h1, h2, h3, h4, h5, h6⟩ := h i (by omega)
    rw [add_off] at h1
    obtain ⟨b2, o2, cs2, t2, fz2, he, hb2, hv⟩ := cell_inv h1
    cases he
    rw [hb] at hb2
    cases hb2
    exact ⟨_, hv, bytesR_of h2 h3 h4 h5 h6⟩

theorem rowsOf_lt {len : Nat} {L : Nat → Nat} {Z : Nat → List Int} (h : ∀ r, r < len → ∀ n ∈ Z r, (Lit.int .u8 n).wf = true) : ∀ r ∈ rowsOf len L Z, ∀ b ∈ r, b < 256 := by
  intro r hr b hb
  obtain ⟨i, hi⟩ := List.getElem?_of_mem hr
  obtain ⟨hil, rfl⟩ := rowsOf_get hi
  rw [List.mem_map] at hb
  obtain ⟨n, hn, rfl⟩ := hb
  have := u8_wf (h i hil n (List.mem_of_mem_take hn))
  omega

theorem Tryz.own : ownKnob Tryz.prog.godebug = none := by kernel_rfl
theorem Tryz.laidOut : laidOutB Tryz.prog = true := by kernel_rfl
theorem gEof : Tryz.prog.globalNamed "io.EOF" = some 0 := by kernel_rfl
theorem gEofType : (Tryz.prog.globals[0]?).map (·.type) = some 61 := by kernel_rfl
theorem cells22 : Tryz.prog.cellsOf 22 = 1 := by kernel_rfl
theorem cells29 : Tryz.prog.cellsOf 29 = 1 := by kernel_rfl
theorem cells5 : Tryz.prog.cellsOf 5 = 1 := by kernel_rfl

theorem eofStar : ("*" ++ "errors.errorString" : String) = "*errors.errorString" := by decide
theorem eofRow (u : TypeId) (h : Tryz.prog.typeName? 3 u = some "*errors.errorString") : u = 125 :=
  typeName_ptr_named (nm := "errors.errorString") (by rw [eofStar]; kernel_rfl) (by kernel_rfl) (by decide) u (by rw [eofStar]; exact h)
theorem cells168 : Tryz.prog.cellsOf 168 = 1 := by kernel_rfl
theorem cells9 : Tryz.prog.cellsOf 9 = 1 := by kernel_rfl

theorem eof_of_laid {W : World} {rest : List (String × DataW Unit)} (h : laidMet Tryz.prog (("io.EOF", Rows.laid_io_EOF) :: rest) W) : ∃ q, W.cell? ⟨0, 0, none⟩ = some (eofV q) := by
  obtain ⟨a, s, hv, _⟩ := laid_sentinel h gEof gEofType Tryz.underlying61 eofRow Tryz.underlying125 Tryz.underlying168 rfl rfl Tryz.underlying9 cells168 cells9
  exact ⟨a, by simpa [eofV] using World.var?_cell gEof hv 0⟩
end Go.Proofs.YtgikfcmcgpcckaaGreatDoor
