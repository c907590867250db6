/- What single operations come to. A part of the proofs of FnExactDegree and FnExactCoefficient. -/
import Derived.Test.YtgikfcmcgpcckaaGreatDoorEn
namespace Go.Proofs.YtgikfcmcgpcckaaGreatDoor.Sl
open Go

def aggD : TypeDesc → Bool | .struct _ => true | .array _ _ => true | _ => false
def ifaceD : TypeDesc → Bool | .interface _ => true | _ => false

section
variable {P : Program} {n : Nat} {e : Env} {w : World} {ty t t' : TypeId} {x y c : Operand} {v a b : Value}

theorem ev_move : Ev P (opv n e) (.move x) ty w (opv n e x) := by simp [Ev, execOp, go_sem]
theorem ev_assign : Ev P (opv n e) (.assign x) ty w (opv n e x) := by simp [Ev, execOp, go_sem]
theorem ev_pick {q : Bool} (hc : opv n e c = .bool q) : Ev P (opv n e) (.pick c x y) ty w (if q then opv n e x else opv n e y) := by
  unfold Ev; cases q <;> simp [execOp, go_sem, hc]
theorem ev_pick_t (hc : opv n e c = .bool true) : Ev P (opv n e) (.pick c x y) ty w (opv n e x) := ev_pick hc
theorem ev_pick_f (hc : opv n e c = .bool false) : Ev P (opv n e) (.pick c x y) ty w (opv n e y) := ev_pick hc
theorem ev_nilCheck {q : Addr} (hx : opv n e x = .pointer (some q)) : Ev P (opv n e) (.nilCheck x) ty w (.pointer (some q)) := by
  simp [Ev, execOp, go_sem, hx]
theorem ev_extract {i : Nat} {vs : Array Value} (hx : opv n e x = .tuple vs) (hv : vs[i]? = some v) : Ev P (opv n e) (.extract x i) ty w v := by
  simp [Ev, execOp, go_sem, hx, hv]
theorem run_und {t : TypeId} {d : TypeDesc} (h : P.underlying t = some d) : (underlying t).run P w = .ok d w := by simp [underlying, go_sem, h]
theorem ev_len_slice {p : Option Addr} {l k : Nat} {el : TypeId} (hx : opv n e x = .slice p l k) (hu : P.underlying t = some (.slice el)) :
    Ev P (opv n e) (.call { callee := .builtin .len, args := #[x], argTypes := #[t] }) ty w (.int .i64 l) := by
  simp [Ev, go_sem, hx, Builtin.len_, run_und hu]
theorem ev_cap_slice {p : Option Addr} {l k : Nat} {el : TypeId} (hx : opv n e x = .slice p l k) (hu : P.underlying t = some (.slice el)) :
    Ev P (opv n e) (.call { callee := .builtin .cap, args := #[x], argTypes := #[t] }) ty w (.int .i64 k) := by
  simp [Ev, go_sem, hx, Builtin.cap_, run_und hu]
theorem ev_len_string {s : ByteArray} (hx : opv n e x = .string s) (hu : P.underlying t = some .string) :
    Ev P (opv n e) (.call { callee := .builtin .len, args := #[x], argTypes := #[t] }) ty w (.int .i64 s.size) := by
  simp [Ev, go_sem, hx, Builtin.len_, run_und hu]
theorem ev_not {q : Bool} (hx : opv n e x = .bool q) : Ev P (opv n e) (.unOp .not t x) ty w (.bool (!q)) := by
  simp [Ev, execOp, go_sem, hx]
theorem ev_add {k : IntKind} {i j : Int} (hx : opv n e x = .int k i) (hy : opv n e y = .int k j) :
    Ev P (opv n e) (.binOp .add t x y t') ty w (.int k (k.wrap (i + j))) := by
  simp [Ev, execOp, go_sem, hx, hy]
theorem ev_sub {k : IntKind} {i j : Int} (hx : opv n e x = .int k i) (hy : opv n e y = .int k j) :
    Ev P (opv n e) (.binOp .sub t x y t') ty w (.int k (k.wrap (i - j))) := by
  simp [Ev, execOp, go_sem, hx, hy]
theorem ev_mul {k : IntKind} {i j : Int} (hx : opv n e x = .int k i) (hy : opv n e y = .int k j) :
    Ev P (opv n e) (.binOp .mul t x y t') ty w (.int k (k.wrap (i * j))) := by
  simp [Ev, execOp, go_sem, hx, hy]
theorem ev_quo {k : IntKind} {i j : Int} (hx : opv n e x = .int k i) (hy : opv n e y = .int k j) (hj : j ≠ 0) :
    Ev P (opv n e) (.binOp .quo t x y t') ty w (.int k (k.wrap (i.tdiv j))) := by
  simp [Ev, execOp, go_sem, hx, hy, hj]
theorem ev_rem {k : IntKind} {i j : Int} (hx : opv n e x = .int k i) (hy : opv n e y = .int k j) (hj : j ≠ 0) :
    Ev P (opv n e) (.binOp .rem t x y t') ty w (.int k (i.tmod j)) := by
  simp [Ev, execOp, go_sem, hx, hy, hj]
theorem ev_eq {k : IntKind} {i j : Int} (hx : opv n e x = .int k i) (hy : opv n e y = .int k j) :
    Ev P (opv n e) (.binOp .eql t x y t') ty w (.bool (decide (i = j))) := by
  simp [Ev, execOp, go_sem, hx, hy]; rfl
theorem ev_ne {k : IntKind} {i j : Int} (hx : opv n e x = .int k i) (hy : opv n e y = .int k j) :
    Ev P (opv n e) (.binOp .neq t x y t') ty w (.bool (decide (¬ i = j))) := by
  simp [Ev, execOp, go_sem, hx, hy]; rfl
theorem ev_lt {k : IntKind} {i j : Int} (hx : opv n e x = .int k i) (hy : opv n e y = .int k j) :
    Ev P (opv n e) (.binOp .lss t x y t') ty w (.bool (decide (i < j))) := by
  simp [Ev, execOp, go_sem, hx, hy]
theorem ev_le {k : IntKind} {i j : Int} (hx : opv n e x = .int k i) (hy : opv n e y = .int k j) :
    Ev P (opv n e) (.binOp .leq t x y t') ty w (.bool (decide (i ≤ j))) := by
  simp [Ev, execOp, go_sem, hx, hy]
theorem ev_gt {k : IntKind} {i j : Int} (hx : opv n e x = .int k i) (hy : opv n e y = .int k j) :
    Ev P (opv n e) (.binOp .gtr t x y t') ty w (.bool (decide (i > j))) := by
  simp [Ev, execOp, go_sem, hx, hy]
theorem ev_ge {k : IntKind} {i j : Int} (hx : opv n e x = .int k i) (hy : opv n e y = .int k j) :
    Ev P (opv n e) (.binOp .geq t x y t') ty w (.bool (decide (i ≥ j))) := by
  simp [Ev, execOp, go_sem, hx, hy]

theorem ev_shl {k ky : IntKind} {i j : Int} (hx : opv n e x = .int k i) (hy : opv n e y = .int ky j) (hj : 0 ≤ j) :
    Ev P (opv n e) (.binOp .shl t x y t') ty w (.int k (k.wrap (i * 2 ^ (min j.toNat k.bits)))) := by
  have : ¬ j < 0 := by omega
  simp [Ev, execOp, go_sem, hx, hy, Op.shift, this]
theorem ev_shr {k ky : IntKind} {i j : Int} (hx : opv n e x = .int k i) (hy : opv n e y = .int ky j) (hj : 0 ≤ j) :
    Ev P (opv n e) (.binOp .shr t x y t') ty w (.int k (i.fdiv (2 ^ (min j.toNat k.bits)))) := by
  have : ¬ j < 0 := by omega
  simp [Ev, execOp, go_sem, hx, hy, Op.shift, this]
def bits2 (op : BinOp) (k : IntKind) (x y : Int) : Int :=
  match op with
  | .and => k.wrap ((BitVec.ofInt k.bits x) &&& (BitVec.ofInt k.bits y)).toNat
  | .or => k.wrap ((BitVec.ofInt k.bits x) ||| (BitVec.ofInt k.bits y)).toNat
  | _ => 0
theorem ev_and {k : IntKind} {i j : Int} (hx : opv n e x = .int k i) (hy : opv n e y = .int k j) :
    Ev P (opv n e) (.binOp .and t x y t') ty w (.int k (bits2 .and k i j)) := by
  simp [Ev, execOp, go_sem, hx, hy, binOp, Op.intBits, bits2]
theorem ev_or {k : IntKind} {i j : Int} (hx : opv n e x = .int k i) (hy : opv n e y = .int k j) :
    Ev P (opv n e) (.binOp .or t x y t') ty w (.int k (bits2 .or k i j)) := by
  simp [Ev, execOp, go_sem, hx, hy, binOp, Op.intBits, bits2]
theorem ev_conv {k k' : IntKind} {i : Int} {ds : TypeDesc} (hx : opv n e x = .int k' i) (hs : P.underlying t = some ds) (hu : P.underlying t' = some (.int k)) :
    Ev P (opv n e) (.convert t t' x) ty w (.int k (k.wrap i)) := by
  simp [Ev, execOp, go_sem, hx, convert, run_und hs, run_und hu, Conv.intToInt]
theorem ev_mkIface {ds : TypeDesc} (hs : P.underlying t = some ds) (hn : ifaceD ds = false) :
    Ev P (opv n e) (.makeInterface t x) ty w (.iface t (opv n e x)) := by
  unfold Ev
  simp only [execOp, Instr.makeInterface]
  cases ds <;> simp_all [go_sem, run_und hs, ifaceD]
theorem run_size {el sz : Nat} (hs : (P.info? el).map (fun ti => ti.size) = some sz) : (Go.sizeOf el).run P w = .ok sz w := by
  obtain ⟨ti, h2, h3⟩ : ∃ ti, P.info? el = some ti ∧ ti.size = sz := by
    cases h : P.info? el with
    | none => rw [h] at hs; cases hs
    | some ti => rw [h] at hs; exact ⟨ti, rfl, by simpa using hs⟩
  simp [Go.sizeOf, typeInfo, go_sem, h2, h3]
theorem ev_index {p : Addr} {l k el sz : Nat} {ky : IntKind} {i : Int} (hx : opv n e x = .slice (some p) l k) (hy : opv n e y = .int ky i) (hu : P.underlying t = some (.slice el))
    (hs : (P.info? el).map (fun ti => ti.size) = some sz) (h0 : 0 ≤ i) (h1 : i < l) :
    Ev P (opv n e) (.indexAddr t x y) ty w (.pointer (some (p.add (i.toNat * sz)))) := by
  simp [Ev, execOp, go_sem, hx, hy, Instr.indexAt, run_und hu, run_size hs, h0, h1]
theorem ev_indexArr {p : Addr} {l el sz : Nat} {ky : IntKind} {i : Int} (hx : opv n e x = .pointer (some p)) (hy : opv n e y = .int ky i) (hu : P.underlying t = some (.array l el))
    (hs : (P.info? el).map (fun ti => ti.size) = some sz) (h0 : 0 ≤ i) (h1 : i < l) :
    Ev P (opv n e) (.indexAddr t x y) ty w (.pointer (some (p.add (i.toNat * sz)))) := by
  simp [Ev, execOp, go_sem, hx, hy, Instr.indexAt, run_und hu, run_size hs, h0, h1, Instr.sureAddr]
theorem ev_load {p : Addr} {ds : TypeDesc} (hx : opv n e x = .pointer (some p)) (hu : P.underlying t = some ds) (hn : aggD ds = false)
    (hc : w.cell? p = some v) : Ev P (opv n e) (.load t x) ty w v := by
  unfold Ev
  have ha : (isAgg t).run P w = .ok false w := by
    unfold isAgg
    cases ds <;> simp_all [go_sem, run_und hu, aggD]
  simp [execOp, go_sem, hx, Instr.loadAt, Instr.sureAddr, loadVar, ha, hc]
end
section
variable {P : Program} {n : Nat} {e : Env} {w : World} {ty t t' : TypeId} {x y c : Operand} {v a b : Value}
theorem ev_not_d {q : Prop} [Decidable q] (hx : opv n e x = .bool (decide q)) : Ev P (opv n e) (.unOp .not t x) ty w (.bool (decide ¬q)) := by
  have := ev_not (P := P) (t := t) (ty := ty) (w := w) hx
  simpa using this
theorem ev_addI {i j : Int} (hx : opv n e x = .int .i64 i) (hy : opv n e y = .int .i64 j) (h1 : -9223372036854775808 ≤ i + j := by omega) (h2 : i + j ≤ 9223372036854775807 := by omega) :
    Ev P (opv n e) (.binOp .add t x y t') ty w (.int .i64 (i + j)) := by
  have := ev_add (P := P) (t := t) (t' := t') (ty := ty) (w := w) hx hy
  rwa [IntWalk.i64_in _ (by omega)] at this
theorem ev_subI {i j : Int} (hx : opv n e x = .int .i64 i) (hy : opv n e y = .int .i64 j) (h1 : -9223372036854775808 ≤ i - j := by omega) (h2 : i - j ≤ 9223372036854775807 := by omega) :
    Ev P (opv n e) (.binOp .sub t x y t') ty w (.int .i64 (i - j)) := by
  have := ev_sub (P := P) (t := t) (t' := t') (ty := ty) (w := w) hx hy
  rwa [IntWalk.i64_in _ (by omega)] at this
theorem ev_mulI {i j : Int} (hx : opv n e x = .int .i64 i) (hy : opv n e y = .int .i64 j) (h1 : -9223372036854775808 ≤ i * j := by omega) (h2 : i * j ≤ 9223372036854775807 := by omega) :
    Ev P (opv n e) (.binOp .mul t x y t') ty w (.int .i64 (i * j)) := by
  have := ev_mul (P := P) (t := t) (t' := t') (ty := ty) (w := w) hx hy
  rwa [IntWalk.i64_in _ (by omega)] at this
/-- A quotient of a number that is not negative by one that is positive. -/
theorem ev_quoI {i j : Nat} (hx : opv n e x = .int .i64 i) (hy : opv n e y = .int .i64 j) (h1 : i ≤ 9223372036854775807 := by omega) (hj : 0 < j := by omega) :
    Ev P (opv n e) (.binOp .quo t x y t') ty w (.int .i64 ((i / j : Nat) : Int)) := by
  have := ev_quo (P := P) (t := t) (t' := t') (ty := ty) (w := w) hx hy (by omega)
  have h2 : (i : Int).tdiv (j : Int) = ((i / j : Nat) : Int) := by rw [Int.tdiv_eq_ediv_of_nonneg (by omega)]; simp
  have h3 := Nat.div_le_self i j
  rw [h2, IntWalk.i64_in _ ⟨by have := Int.natCast_nonneg (i / j); omega, by have : ((i / j : Nat) : Int) ≤ i := Int.ofNat_le.2 h3; omega⟩] at this
  exact this
theorem ev_remI {i j : Nat} (hx : opv n e x = .int .i64 i) (hy : opv n e y = .int .i64 j) (hj : 0 < j := by omega) :
    Ev P (opv n e) (.binOp .rem t x y t') ty w (.int .i64 ((i % j : Nat) : Int)) := by
  have := ev_rem (P := P) (t := t) (t' := t') (ty := ty) (w := w) hx hy (by omega)
  have h2 : (i : Int).tmod (j : Int) = ((i % j : Nat) : Int) := by rw [Int.tmod_eq_emod_of_nonneg (by omega)]; simp
  rw [h2] at this
  exact this
theorem ev_eq_t {k : IntKind} {i j : Int} (hx : opv n e x = .int k i) (hy : opv n e y = .int k j) (h : i = j) : Ev P (opv n e) (.binOp .eql t x y t') ty w (.bool true) := by
  have := ev_eq (P := P) (t := t) (t' := t') (ty := ty) (w := w) hx hy; simpa [h] using this
theorem ev_eq_f {k : IntKind} {i j : Int} (hx : opv n e x = .int k i) (hy : opv n e y = .int k j) (h : ¬ i = j) : Ev P (opv n e) (.binOp .eql t x y t') ty w (.bool false) := by
  have := ev_eq (P := P) (t := t) (t' := t') (ty := ty) (w := w) hx hy; simpa [h] using this
theorem ev_ne_t {k : IntKind} {i j : Int} (hx : opv n e x = .int k i) (hy : opv n e y = .int k j) (h : ¬ i = j) : Ev P (opv n e) (.binOp .neq t x y t') ty w (.bool true) := by
  have := ev_ne (P := P) (t := t) (t' := t') (ty := ty) (w := w) hx hy; simpa [h] using this
theorem ev_ne_f {k : IntKind} {i j : Int} (hx : opv n e x = .int k i) (hy : opv n e y = .int k j) (h : i = j) : Ev P (opv n e) (.binOp .neq t x y t') ty w (.bool false) := by
  have := ev_ne (P := P) (t := t) (t' := t') (ty := ty) (w := w) hx hy; simpa [h] using this
theorem ev_lt_t {k : IntKind} {i j : Int} (hx : opv n e x = .int k i) (hy : opv n e y = .int k j) (h : i < j) : Ev P (opv n e) (.binOp .lss t x y t') ty w (.bool true) := by
  have := ev_lt (P := P) (t := t) (t' := t') (ty := ty) (w := w) hx hy; rwa [decide_eq_true h] at this
theorem ev_lt_f {k : IntKind} {i j : Int} (hx : opv n e x = .int k i) (hy : opv n e y = .int k j) (h : ¬ i < j) : Ev P (opv n e) (.binOp .lss t x y t') ty w (.bool false) := by
  have := ev_lt (P := P) (t := t) (t' := t') (ty := ty) (w := w) hx hy; rwa [decide_eq_false h] at this
theorem ev_le_t {k : IntKind} {i j : Int} (hx : opv n e x = .int k i) (hy : opv n e y = .int k j) (h : i ≤ j) : Ev P (opv n e) (.binOp .leq t x y t') ty w (.bool true) := by
  have := ev_le (P := P) (t := t) (t' := t') (ty := ty) (w := w) hx hy; rwa [decide_eq_true h] at this
theorem ev_le_f {k : IntKind} {i j : Int} (hx : opv n e x = .int k i) (hy : opv n e y = .int k j) (h : ¬ i ≤ j) : Ev P (opv n e) (.binOp .leq t x y t') ty w (.bool false) := by
  have := ev_le (P := P) (t := t) (t' := t') (ty := ty) (w := w) hx hy; rwa [decide_eq_false h] at this
theorem ev_gt_t {k : IntKind} {i j : Int} (hx : opv n e x = .int k i) (hy : opv n e y = .int k j) (h : i > j) : Ev P (opv n e) (.binOp .gtr t x y t') ty w (.bool true) := by
  have := ev_gt (P := P) (t := t) (t' := t') (ty := ty) (w := w) hx hy; rwa [decide_eq_true h] at this
theorem ev_gt_f {k : IntKind} {i j : Int} (hx : opv n e x = .int k i) (hy : opv n e y = .int k j) (h : ¬ i > j) : Ev P (opv n e) (.binOp .gtr t x y t') ty w (.bool false) := by
  have := ev_gt (P := P) (t := t) (t' := t') (ty := ty) (w := w) hx hy; rwa [decide_eq_false h] at this
theorem ev_ge_t {k : IntKind} {i j : Int} (hx : opv n e x = .int k i) (hy : opv n e y = .int k j) (h : i ≥ j) : Ev P (opv n e) (.binOp .geq t x y t') ty w (.bool true) := by
  have := ev_ge (P := P) (t := t) (t' := t') (ty := ty) (w := w) hx hy; rwa [decide_eq_true h] at this
theorem ev_ge_f {k : IntKind} {i j : Int} (hx : opv n e x = .int k i) (hy : opv n e y = .int k j) (h : ¬ i ≥ j) : Ev P (opv n e) (.binOp .geq t x y t') ty w (.bool false) := by
  have := ev_ge (P := P) (t := t) (t' := t') (ty := ty) (w := w) hx hy; rwa [decide_eq_false h] at this
end
end Go.Proofs.YtgikfcmcgpcckaaGreatDoor.Sl
