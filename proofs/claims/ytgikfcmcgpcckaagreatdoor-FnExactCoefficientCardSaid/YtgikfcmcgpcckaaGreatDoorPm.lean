/- One step of reading bytes into words. A part of the proofs of FnExactDegree and FnExactCoefficient. -/
import Derived.Test.YtgikfcmcgpcckaaGreatDoorPl
namespace Go.Proofs.YtgikfcmcgpcckaaGreatDoor.Sl
theorem pow_words (i : Nat) : 256 ^ i = 18446744073709551616 ^ (i / 8) * 2 ^ (8 * (i % 8)) := by
  have e1 : (256 : Nat) = 2 ^ 8 := rfl
  have e2 : (18446744073709551616 : Nat) = 2 ^ 64 := rfl
  rw [e1, e2, ← Nat.pow_mul, ← Nat.pow_mul, ← Nat.pow_add]
  congr 1
  omega

theorem ofStep {bs ws : List Nat} {i x : Nat} (hi : i < bs.length) (h72 : bs.length ≤ 72) (hb : ∀ b ∈ bs, b < 256) (hl : ws.length = 9) (hw : ∀ y ∈ ws, y < 18446744073709551616) (hv : val ws = LE (bs.reverse.take i)) (hx : bs[bs.length - 1 - i]? = some x) :
    ∃ y, ws[i / 8]? = some y ∧ y < 18446744073709551616 ∧ x * 2 ^ (8 * (i % 8)) < 18446744073709551616 ∧ (y ||| x * 2 ^ (8 * (i % 8))) < 18446744073709551616 ∧
      val (ws.set (i / 8) (y ||| x * 2 ^ (8 * (i % 8)))) = LE (bs.reverse.take (i + 1)) := by
  have hq : i / 8 < ws.length := by omega
  have hx256 : x < 256 := hb x (List.mem_of_getElem? hx)
  have h1 : val ws < 18446744073709551616 ^ (i / 8) * 2 ^ (8 * (i % 8)) := by
    rw [hv, ← pow_words]
    exact LE_take_lt _ (by simpa using hb) _ (by simp; omega)
  have h2 := word_lt ws (i / 8) _ hq h1
  have h3 : x * 2 ^ (8 * (i % 8)) + 2 ^ (8 * (i % 8)) ≤ 18446744073709551616 := by
    have h4 : (x + 1) * 2 ^ (8 * (i % 8)) ≤ 256 * 2 ^ (8 * (i % 8)) := Nat.mul_le_mul_right _ (by omega)
    have h5 : 256 * 2 ^ (8 * (i % 8)) ≤ 18446744073709551616 := by
      have e : (256 : Nat) * 2 ^ (8 * (i % 8)) = 2 ^ (8 + 8 * (i % 8)) := by rw [Nat.pow_add]
      have e3 : (18446744073709551616 : Nat) = 2 ^ 64 := rfl
      rw [e, e3]
      exact Nat.pow_le_pow_right (by omega) (by omega)
    rw [Nat.add_mul, Nat.one_mul] at h4
    omega
  have hor : (ws[i / 8] ||| x * 2 ^ (8 * (i % 8))) = ws[i / 8] + x * 2 ^ (8 * (i % 8)) := by
    have := Nat.two_pow_add_eq_or_of_lt h2 x
    rw [Nat.or_comm, Nat.mul_comm x, ← this, Nat.add_comm]
  refine ⟨ws[i / 8], by simp, hw _ (by simp), by omega, by rw [hor]; omega, ?_⟩
  rw [hor, val_set ws _ hq, hv, LE_take _ _ (by simpa using hi), pow_words i]
  have hr : bs.reverse[i]'(by simpa using hi) = x := by
    rw [List.getElem_reverse]
    have := List.getElem?_eq_getElem (l := bs) (i := bs.length - 1 - i) (by omega)
    rw [this] at hx
    exact Option.some.inj hx
  rw [hr, Nat.mul_comm (18446744073709551616 ^ (i / 8)), Nat.mul_assoc]
end Go.Proofs.YtgikfcmcgpcckaaGreatDoor.Sl
