/- Slots written out, bytes added and subtracted. A part of the proofs of FnExactDegree and FnExactCoefficient. -/
import Derived.Test.YtgikfcmcgpcckaaGreatDoorNh
namespace Go.Proofs.YtgikfcmcgpcckaaGreatDoor.Sl
open Go
theorem sl9 {e : Env} {a0 a1 a2 a3 a4 a5 a6 a7 a8 : Nat} {v0 v1 v2 v3 v4 v5 v6 v7 v8 : Value} (h0 : e a0 = v0) (h1 : e a1 = v1) (h2 : e a2 = v2) (h3 : e a3 = v3) (h4 : e a4 = v4) (h5 : e a5 = v5) (h6 : e a6 = v6) (h7 : e a7 = v7) (h8 : e a8 = v8) : e = upd (upd (upd (upd (upd (upd (upd (upd (upd e a0 v0) a1 v1) a2 v2) a3 v3) a4 v4) a5 v5) a6 v6) a7 v7) a8 v8 := by
  rw [upd_self h0, upd_self h1, upd_self h2, upd_self h3, upd_self h4, upd_self h5, upd_self h6, upd_self h7, upd_self h8]
theorem sl10 {e : Env} {a0 a1 a2 a3 a4 a5 a6 a7 a8 a9 : Nat} {v0 v1 v2 v3 v4 v5 v6 v7 v8 v9 : Value} (h0 : e a0 = v0) (h1 : e a1 = v1) (h2 : e a2 = v2) (h3 : e a3 = v3) (h4 : e a4 = v4) (h5 : e a5 = v5) (h6 : e a6 = v6) (h7 : e a7 = v7) (h8 : e a8 = v8) (h9 : e a9 = v9) : e = upd (upd (upd (upd (upd (upd (upd (upd (upd (upd e a0 v0) a1 v1) a2 v2) a3 v3) a4 v4) a5 v5) a6 v6) a7 v7) a8 v8) a9 v9 := by
  rw [upd_self h0, upd_self h1, upd_self h2, upd_self h3, upd_self h4, upd_self h5, upd_self h6, upd_self h7, upd_self h8, upd_self h9]
theorem sl12 {e : Env} {a0 a1 a2 a3 a4 a5 a6 a7 a8 a9 a10 a11 : Nat} {v0 v1 v2 v3 v4 v5 v6 v7 v8 v9 v10 v11 : Value} (h0 : e a0 = v0) (h1 : e a1 = v1) (h2 : e a2 = v2) (h3 : e a3 = v3) (h4 : e a4 = v4) (h5 : e a5 = v5) (h6 : e a6 = v6) (h7 : e a7 = v7) (h8 : e a8 = v8) (h9 : e a9 = v9) (h10 : e a10 = v10) (h11 : e a11 = v11) : e = upd (upd (upd (upd (upd (upd (upd (upd (upd (upd (upd (upd e a0 v0) a1 v1) a2 v2) a3 v3) a4 v4) a5 v5) a6 v6) a7 v7) a8 v8) a9 v9) a10 v10) a11 v11 := by
  rw [upd_self h0, upd_self h1, upd_self h2, upd_self h3, upd_self h4, upd_self h5, upd_self h6, upd_self h7, upd_self h8, upd_self h9, upd_self h10, upd_self h11]
theorem sl17 {e : Env} {a0 a1 a2 a3 a4 a5 a6 a7 a8 a9 a10 a11 a12 a13 a14 a15 a16 : Nat} {v0 v1 v2 v3 v4 v5 v6 v7 v8 v9 v10 v11 v12 v13 v14 v15 v16 : Value} (h0 : e a0 = v0) (h1 : e a1 = v1) (h2 : e a2 = v2) (h3 : e a3 = v3) (h4 : e a4 = v4) (h5 : e a5 = v5) (h6 : e a6 = v6) (h7 : e a7 = v7) (h8 : e a8 = v8) (h9 : e a9 = v9) (h10 : e a10 = v10) (h11 : e a11 = v11) (h12 : e a12 = v12) (h13 : e a13 = v13) (h14 : e a14 = v14) (h15 : e a15 = v15) (h16 : e a16 = v16) : e = upd (upd (upd (upd (upd (upd (upd (upd (upd (upd (upd (upd (upd (upd (upd (upd (upd e a0 v0) a1 v1) a2 v2) a3 v3) a4 v4) a5 v5) a6 v6) a7 v7) a8 v8) a9 v9) a10 v10) a11 v11) a12 v12) a13 v13) a14 v14) a15 v15) a16 v16 := by
  rw [upd_self h0, upd_self h1, upd_self h2, upd_self h3, upd_self h4, upd_self h5, upd_self h6, upd_self h7, upd_self h8, upd_self h9, upd_self h10, upd_self h11, upd_self h12, upd_self h13, upd_self h14, upd_self h15, upd_self h16]
section
variable {P : Program} {n : Nat} {e : Env} {w : World} {ty t t' : TypeId} {x y : Operand}
theorem ev_subB {i j : Int} (hx : opv n e x = .int .u8 i) (hy : opv n e y = .int .u8 j) (h1 : 0 ≤ i - j) (h2 : i - j ≤ 255) :
    Ev P (opv n e) (.binOp .sub t x y t') ty w (.int .u8 (i - j)) := by
  have := ev_sub (P := P) (t := t) (t' := t') (ty := ty) (w := w) hx hy
  rwa [IntWalk.u8_in _ ⟨h1, h2⟩] at this
theorem ev_addB {i j : Int} (hx : opv n e x = .int .u8 i) (hy : opv n e y = .int .u8 j) (h1 : 0 ≤ i + j) (h2 : i + j ≤ 255) :
    Ev P (opv n e) (.binOp .add t x y t') ty w (.int .u8 (i + j)) := by
  have := ev_add (P := P) (t := t) (t' := t') (ty := ty) (w := w) hx hy
  rwa [IntWalk.u8_in _ ⟨h1, h2⟩] at this
theorem ev_convZ {k' : IntKind} {ds : TypeDesc} {i : Int} (hx : opv n e x = .int k' i) (hs : P.underlying t = some ds) (hu : P.underlying t' = some (.int .u64)) (h1 : 0 ≤ i) (h2 : i ≤ 18446744073709551615) :
    Ev P (opv n e) (.convert t t' x) ty w (.int .u64 i) := by
  have := ev_conv (P := P) (ty := ty) (w := w) hx hs hu
  rwa [IntWalk.u64_in _ ⟨h1, h2⟩] at this
end
end Go.Proofs.YtgikfcmcgpcckaaGreatDoor.Sl
namespace Go.Proofs.YtgikfcmcgpcckaaGreatDoor.Sl
open Go
section
variable {P : Program} {l : List Oper} {Q : Exit → Act → World → Prop} {n : Nat} {e : Env} {w : World} {rest : List Oper} {d : Nat} {op : Op} {ty : TypeId} {pos : String} {af : Array Edge}
theorem yielded_undef {ops : Array Oper} {j t : Nat} (hj : (ops[j]?).bind (·.dst) = some t) (hv : opv n e (.tmp t) = undef) : yielded ops (fr n e).tmps j = none := by
  unfold yielded
  rw [hj]
  by_cases ht : t < n
  · have hb : Nat.blt t n = true := by simpa using ht
    simp only [opv, hb, cond_true] at hv
    simp [fr, ht, hv, undef]
  · simp [fr, ht]
/-- A guarded operation whose guard itself was passed over. -/
theorem s_skipu {j t : Nat} {b : Bool} (hj : ((l[j]?).bind fun o => o.dst) = some t) (hv : opv n e (.tmp t) = undef) (k : wpList P l.toArray Q rest (fr n (upd e d undef)) w) :
    wpList P l.toArray Q ({ dst := some d, op := op, type := ty, pos := pos, after := af, guard := some (j, b) } :: rest) (fr n e) w := by
  refine wpList_step fun K hK => ?_
  have hw : Region.wanted { dst := some d, op := op, type := ty, pos := pos, after := af, guard := some (j, b) } (yielded l.toArray (fr n e).tmps) = false := by
    simp only [Region.wanted]
    rw [yielded_undef (t := t) (by simpa using hj) hv]
    rfl
  rw [hw]
  simp only [Bool.false_eq_true, if_false]
  rw [put_fr]
  exact hK _ _ k
end
end Go.Proofs.YtgikfcmcgpcckaaGreatDoor.Sl
