/- Rows of words, arithmetic on unsigned words. A part of the proofs of FnExactDegree and FnExactCoefficient. -/
import Derived.Test.YtgikfcmcgpcckaaGreatDoorDt
import Derived.Test.YtgikfcmcgpcckaaGreatDoorPm
namespace Go.Proofs.YtgikfcmcgpcckaaGreatDoor.Sl
open Go
section
variable {P : Program} {l : List Oper} {Q : Exit → Act → World → Prop} {n : Nat} {e : Env} {w : World} {rest : List Oper} {d : Nat} {op : Op} {ty : TypeId} {pos : String} {af : Array Edge} {v : Value}
theorem c_ifb {c : Operand} {x y : Code} {q : Bool} (hc : opv n e c = .bool q) (ht : q = true → x.wp P Q (fr n e) w) (hf : q = false → y.wp P Q (fr n e) w) : (Code.cond c x y).wp P Q (fr n e) w := by
  cases q
  · exact c_false hc (hf rfl)
  · exact c_true hc (ht rfl)
end
/-- A row of whole words. -/
def nA (ws : List Nat) : Array Value := (ws.map fun x => Value.int .u64 (x : Nat)).toArray
theorem nA_size (ws : List Nat) : (nA ws).size = ws.length := by simp [nA]
theorem nA_get {ws : List Nat} {i x : Nat} (h : ws[i]? = some x) : (nA ws)[i]? = some (.int .u64 (x : Nat)) := by simp [nA, h]
theorem nA_set (ws : List Nat) (i x : Nat) : (nA ws).setIfInBounds i (.int .u64 (x : Nat)) = nA (ws.set i x) := by
  apply Array.ext'
  simp [nA, List.map_set]
end Go.Proofs.YtgikfcmcgpcckaaGreatDoor.Sl
namespace Go.Proofs.YtgikfcmcgpcckaaGreatDoor.Sl
open Go
theorem wrapU (i : Nat) (h : i < 18446744073709551616) : IntKind.u64.wrap (i : Int) = (i : Nat) := IntWalk.u64_in _ (by omega)
section
variable {P : Program} {n : Nat} {e : Env} {w : World} {ty t t' : TypeId} {x y : Operand} {i j : Nat}
theorem ev_convU {k' : IntKind} {ds : TypeDesc} (hx : opv n e x = .int k' (i : Nat)) (hs : P.underlying t = some ds) (hu : P.underlying t' = some (.int .u64)) (h : i < 18446744073709551616) :
    Ev P (opv n e) (.convert t t' x) ty w (.int .u64 (i : Nat)) := by
  have := ev_conv (P := P) (ty := ty) (w := w) hx hs hu
  rwa [wrapU i h] at this
theorem ev_convI {k' : IntKind} {ds : TypeDesc} (hx : opv n e x = .int k' (i : Nat)) (hs : P.underlying t = some ds) (hu : P.underlying t' = some (.int .i64)) (h : i < 9223372036854775808) :
    Ev P (opv n e) (.convert t t' x) ty w (.int .i64 (i : Nat)) := by
  have := ev_conv (P := P) (ty := ty) (w := w) hx hs hu
  rwa [IntWalk.i64_in _ (by omega)] at this
theorem ev_mulU (hx : opv n e x = .int .u64 (i : Nat)) (hy : opv n e y = .int .u64 (j : Nat)) (h : i * j < 18446744073709551616) :
    Ev P (opv n e) (.binOp .mul t x y t') ty w (.int .u64 ((i * j : Nat) : Int)) := by
  have := ev_mul (P := P) (t := t) (t' := t') (ty := ty) (w := w) hx hy
  rwa [← Int.natCast_mul, wrapU _ h] at this
theorem ev_addU (hx : opv n e x = .int .u64 (i : Nat)) (hy : opv n e y = .int .u64 (j : Nat)) (h : i + j < 18446744073709551616) :
    Ev P (opv n e) (.binOp .add t x y t') ty w (.int .u64 ((i + j : Nat) : Int)) := by
  have := ev_add (P := P) (t := t) (t' := t') (ty := ty) (w := w) hx hy
  rwa [← Int.natCast_add, wrapU _ h] at this
theorem ev_subU (hx : opv n e x = .int .u64 (i : Nat)) (hy : opv n e y = .int .u64 (j : Nat)) (h : j ≤ i) (h2 : i < 18446744073709551616) :
    Ev P (opv n e) (.binOp .sub t x y t') ty w (.int .u64 ((i - j : Nat) : Int)) := by
  have := ev_sub (P := P) (t := t) (t' := t') (ty := ty) (w := w) hx hy
  rwa [← Int.natCast_sub h, wrapU _ (by omega)] at this
theorem ev_shlU {ky : IntKind} (hx : opv n e x = .int .u64 (i : Nat)) (hy : opv n e y = .int ky (j : Nat)) (hj : j < 64) (h : i * 2 ^ j < 18446744073709551616) :
    Ev P (opv n e) (.binOp .shl t x y t') ty w (.int .u64 ((i * 2 ^ j : Nat) : Int)) := by
  have := ev_shl (P := P) (t := t) (t' := t') (ty := ty) (w := w) hx hy (by omega)
  have e1 : min ((j : Nat) : Int).toNat IntKind.u64.bits = j := by
    show min _ 64 = _
    simp; omega
  have e2 : ((i : Nat) : Int) * 2 ^ j = ((i * 2 ^ j : Nat) : Int) := by simp
  rwa [e1, e2, wrapU _ h] at this
theorem ev_orU (hx : opv n e x = .int .u64 (i : Nat)) (hy : opv n e y = .int .u64 (j : Nat)) (h1 : i < 18446744073709551616) (h2 : j < 18446744073709551616) :
    Ev P (opv n e) (.binOp .or t x y t') ty w (.int .u64 ((i ||| j : Nat) : Int)) := by
  have := ev_or (P := P) (t := t) (t' := t') (ty := ty) (w := w) hx hy
  have e1 : bits2 .or .u64 (i : Int) (j : Int) = ((i ||| j : Nat) : Int) := by
    have h3 : i ||| j < 2 ^ 64 := Nat.or_lt_two_pow (by omega) (by omega)
    show IntKind.u64.wrap _ = _
    have e2 : ((BitVec.ofInt 64 (i : Int)) ||| (BitVec.ofInt 64 (j : Int))).toNat = i ||| j := by
      simp only [BitVec.ofInt_natCast, BitVec.toNat_or, BitVec.toNat_ofNat]
      rw [Nat.mod_eq_of_lt (by omega), Nat.mod_eq_of_lt (by omega)]
    show IntKind.u64.wrap (((BitVec.ofInt 64 (i : Int)) ||| (BitVec.ofInt 64 (j : Int))).toNat : Int) = _
    rw [e2, wrapU _ (by omega)]
  rwa [e1] at this
end
theorem Own.heap1 {K : Nat → Prop} {W0 w : World} {L : List Hl} (H : Own K W0 w L) (i : Nat) {b : Nat} {o : Obj} (hi : L[i]? = some (Hl.one b o)) : w.heap[b]? = some o := H.heap hi (by simp [Hl.one])
end Go.Proofs.YtgikfcmcgpcckaaGreatDoor.Sl
namespace Go.Proofs.YtgikfcmcgpcckaaGreatDoor.Sl
open Go
theorem put_at (h : Hl) (b : Nat) (o : Obj) : h.put b o b = some o := by simp [Hl.put]
theorem one_at (b : Nat) (o : Obj) : Hl.one b o b = some o := by simp [Hl.one]
end Go.Proofs.YtgikfcmcgpcckaaGreatDoor.Sl
