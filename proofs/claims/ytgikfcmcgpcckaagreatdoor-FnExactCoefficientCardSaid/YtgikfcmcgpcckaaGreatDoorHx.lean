/- Bytes turned into strings, strings compared. A part of the proofs of FnExactDegree and FnExactCoefficient. -/
import Derived.Test.YtgikfcmcgpcckaaGreatDoorGw
import Derived.Laws.BytesArg
import Derived.Laws.Strings
namespace Go.Proofs.YtgikfcmcgpcckaaGreatDoor.Sl
open Go Go.RowKit

/-- Bytes as a string. -/
def strB (bs : List Nat) : ByteArray := strOfNums (bs.map fun x : Nat => (x : Int))
theorem strB_toList (bs : List Nat) : (strB bs).toList = bs.map UInt8.ofNat := by
  rw [ByteArray.toList_eq]
  simp [strB, strOfNums_data, Function.comp_def]
theorem strB_inj : ∀ {a b : List Nat}, (∀ x ∈ a, x < 256) → (∀ x ∈ b, x < 256) → a.map UInt8.ofNat = b.map UInt8.ofNat → a = b
  | [], [], _, _, _ => rfl
  | [], _ :: _, _, _, h => by cases h
  | _ :: _, [], _, _, h => by cases h
  | x :: a, y :: b, ha, hb, h => by
    simp only [List.map_cons, List.cons.injEq] at h
    have h1 := ha x (by simp)
    have h2 := hb y (by simp)
    have h3 : (UInt8.ofNat x).toNat = (UInt8.ofNat y).toNat := by rw [h.1]
    have h4 : (UInt8.ofNat x).toNat = x := by simp; omega
    have h5 : (UInt8.ofNat y).toNat = y := by simp; omega
    rw [h4, h5] at h3
    rw [h3, strB_inj (fun z hz => ha z (by simp [hz])) (fun z hz => hb z (by simp [hz])) h.2]

section
variable {P : Program} {n : Nat} {e : Env} {w : World} {ty t t' : TypeId} {x y : Operand}

/-- string(b) -/
theorem ev_convBytes {v : Value} {bs : List Nat} {el : TypeId} (hx : opv n e x = v) (hr : BytesR (wR w) v bs) (hne : bs ≠ []) (hs : P.underlying t = some (.slice el)) (he : P.underlying el = some (.int .u8)) (hd : P.underlying t' = some .string) :
    Ev P (opv n e) (.convert t t' x) ty w (.string (strB bs)) := by
  unfold Ev
  have e1 : execOp (opv n e) { dst := none, op := .convert t t' x, type := ty, pos := "", after := #[], guard := none } = (do pure (.value (← convert t t' (opv n e x)))) := rfl
  rw [e1, Sem.run_bind, hx]
  have hr2 : (convert t t' v).run P w = .ok (.string (strB bs)) w := by
    rcases hr with ⟨p, c, _, h⟩ | ⟨b, o, c, cs, tt, fz, rfl, h2, h3⟩
    · exact absurd h hne
    · refine run_convert_bytes_arg w t el hs he b o bs.length c _ (by simp) (fun i hi => ?_) t' hd
      have := cell_of h2 (h3 i bs[i] (by simp))
      rw [this]
      simp [hi]
  rw [hr2]
  rfl

theorem ev_eqStr {a b : List Nat} {q : TypeId} (hx : opv n e x = .string (strB a)) (hy : opv n e y = .string (strB b)) (ha : ∀ x ∈ a, x < 256) (hb : ∀ x ∈ b, x < 256) :
    Ev P (opv n e) (.binOp .eql t x y q) ty w (.bool (decide (a = b))) := by
  unfold Ev
  have e1 : ((strB a).toList == (strB b).toList) = decide (a = b) := by
    rw [strB_toList, strB_toList]
    by_cases h : a = b
    · rw [decide_eq_true h, h]; simp
    · rw [decide_eq_false h]
      exact Bool.eq_false_iff.2 fun h2 => h (strB_inj ha hb (by simpa using h2))
  rw [← e1]
  simp [execOp, hx, hy, go_sem, eqGuard]
end
end Go.Proofs.YtgikfcmcgpcckaaGreatDoor.Sl
