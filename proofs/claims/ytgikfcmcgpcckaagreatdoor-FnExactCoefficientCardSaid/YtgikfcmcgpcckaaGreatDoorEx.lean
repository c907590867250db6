/- Slicing, comparisons with nil, interfaces. A part of the proofs of FnExactDegree and FnExactCoefficient. -/
import Derived.Test.YtgikfcmcgpcckaaGreatDoorCx
import Derived.Laws.BytesArg
import Derived.Laws.Externs
import Derived.LaidEql
namespace Go.Proofs.YtgikfcmcgpcckaaGreatDoor.Sl
open Go Go.RowKit

section
variable {P : Program} {n : Nat} {e : Env} {w : World} {ty t t' : TypeId} {x y z : Operand}

theorem run_bound {k : IntKind} {j y : Nat} {code : BoundsCode} (h : j ≤ y) : (Instr.sliceBound (.int k (j : Nat)) y code).run P w = .ok j w := by
  have : (0 : Int) ≤ (j : Int) ∧ ((j : Nat) : Int) ≤ (y : Int) := by omega
  simp [Instr.sliceBound, asIntOf, this]

/-- x[:j] -/
theorem ev_slice_h {a : Option Addr} {l c j el sz : Nat} {k : IntKind} (hx : opv n e x = .slice a l c) (hy : opv n e y = .int k (j : Nat)) (hu : P.underlying t = some (.slice el))
    (hs : (P.info? el).map (fun ti => ti.size) = some sz) (hj : j ≤ c) : Ev P (opv n e) (.slice t x none (some y) none) ty w (.slice a j c) := by
  have e0 : Option.map (fun x : Addr => x.add 0) a = a := by cases a <;> simp [Addr.add]
  simp [Ev, execOp, Instr.sliceAt, Instr.slice, Instr.sliceBounds, run_und hu, hx, hy, run_bound hj, run_size hs, e0]
/-- x[0:j] -/
theorem ev_slice_0h {a : Option Addr} {l c j el sz : Nat} {k k2 : IntKind} (hx : opv n e x = .slice a l c) (hz : opv n e z = .int k2 0) (hy : opv n e y = .int k (j : Nat)) (hu : P.underlying t = some (.slice el))
    (hs : (P.info? el).map (fun ti => ti.size) = some sz) (hj : j ≤ c) : Ev P (opv n e) (.slice t x (some z) (some y) none) ty w (.slice a j c) := by
  have e0 : Option.map (fun x : Addr => x.add 0) a = a := by cases a <;> simp [Addr.add]
  have hb0 : (Instr.sliceBound (.int k2 0) j .sliceB).run P w = .ok 0 w := run_bound (P := P) (w := w) (k := k2) (j := 0) (y := j) (code := .sliceB) (by omega)
  simp [Ev, execOp, Instr.sliceAt, Instr.slice, Instr.sliceBounds, run_und hu, hx, hy, hz, run_bound hj, run_size hs, hb0, e0]
/-- x[0:] -/
theorem ev_slice_0 {a : Option Addr} {l c el sz : Nat} {k2 : IntKind} (hx : opv n e x = .slice a l c) (hz : opv n e z = .int k2 0) (hu : P.underlying t = some (.slice el))
    (hs : (P.info? el).map (fun ti => ti.size) = some sz) : Ev P (opv n e) (.slice t x (some z) none none) ty w (.slice a l c) := by
  have e0 : Option.map (fun x : Addr => x.add 0) a = a := by cases a <;> simp [Addr.add]
  have hb0 : (Instr.sliceBound (.int k2 0) l .sliceB).run P w = .ok 0 w := run_bound (P := P) (w := w) (k := k2) (j := 0) (y := l) (code := .sliceB) (by omega)
  simp [Ev, execOp, Instr.sliceAt, Instr.slice, Instr.sliceBounds, run_und hu, hx, hz, run_size hs, hb0, e0]

theorem ev_eqSliceNil {a : Addr} {l c el : Nat} {q : TypeId} (hx : opv n e x = .slice (some a) l c) (hy : opv n e y = .slice none 0 0) (hu : P.underlying t = some (.slice el)) :
    Ev P (opv n e) (.binOp .eql t x y q) ty w (.bool false) := by
  have h : ∀ d : Nat, (Op.equalIn (d + 1) t (.slice (some a) l c) (.slice none 0 0)).run P w = .ok false w := fun d => by simp [Op.equalIn, run_und hu]
  simp [Ev, execOp, hx, hy, eqGuard, binOp, Op.equal, Op.maxDepth, h 9999]
theorem ev_eqNilSlice {l c el : Nat} {q : TypeId} (hx : opv n e x = .slice none l c) (hy : opv n e y = .slice none 0 0) (hu : P.underlying t = some (.slice el)) :
    Ev P (opv n e) (.binOp .eql t x y q) ty w (.bool true) := by
  have h : ∀ d : Nat, (Op.equalIn (d + 1) t (.slice none l c) (.slice none 0 0)).run P w = .ok true w := fun d => by simp [Op.equalIn, run_und hu]
  simp [Ev, execOp, hx, hy, eqGuard, binOp, Op.equal, Op.maxDepth, h 9999]

theorem ev_ifaceNil_eq {tp : TypeId} {v : Value} {ms : Array (String × TypeId)} {q : TypeId} (hx : opv n e x = .iface tp v) (hy : opv n e y = .nilIface) (hu : P.underlying t = some (.interface ms)) :
    Ev P (opv n e) (.binOp .eql t x y q) ty w (.bool false) := by
  have h : ∀ d : Nat, (Op.equalIn (d + 1) t (.iface tp v) .nilIface).run P w = .ok false w := fun d => by simp [Op.equalIn, run_und hu]
  simp [Ev, execOp, hx, hy, eqGuard, binOp, Op.equal, Op.maxDepth, h 9999]
theorem ev_ifaceNil_ne {tp : TypeId} {v : Value} {ms : Array (String × TypeId)} {q : TypeId} (hx : opv n e x = .iface tp v) (hy : opv n e y = .nilIface) (hu : P.underlying t = some (.interface ms)) :
    Ev P (opv n e) (.binOp .neq t x y q) ty w (.bool true) := by
  have h : ∀ d : Nat, (Op.equalIn (d + 1) t (.iface tp v) .nilIface).run P w = .ok false w := fun d => by simp [Op.equalIn, run_und hu]
  simp [Ev, execOp, hx, hy, eqGuard, binOp, Op.equal, Op.maxDepth, h 9999]
theorem ev_nilNil_eq {c : Value} {ms : Array (String × TypeId)} {q : TypeId} (hx : opv n e x = .nilIface) (hc : c = .nilIface) (hu : P.underlying t = some (.interface ms)) :
    Ev P (opv n e) (.binOp .eql t x (.const c) q) ty w (.bool true) := by
  subst hc
  have h : ∀ d : Nat, (Op.equalIn (d + 1) t .nilIface .nilIface).run P w = .ok true w := fun d => by simp [Op.equalIn, run_und hu]
  have hy : opv n e (.const .nilIface) = .nilIface := rfl
  simp [Ev, execOp, hx, hy, eqGuard, binOp, Op.equal, Op.maxDepth, h 9999]
theorem ev_nilNil_ne {c : Value} {ms : Array (String × TypeId)} {q : TypeId} (hx : opv n e x = .nilIface) (hc : c = .nilIface) (hu : P.underlying t = some (.interface ms)) :
    Ev P (opv n e) (.binOp .neq t x (.const c) q) ty w (.bool false) := by
  subst hc
  have h : ∀ d : Nat, (Op.equalIn (d + 1) t .nilIface .nilIface).run P w = .ok true w := fun d => by simp [Op.equalIn, run_und hu]
  have hy : opv n e (.const .nilIface) = .nilIface := rfl
  simp [Ev, execOp, hx, hy, eqGuard, binOp, Op.equal, Op.maxDepth, h 9999]
/-- One pointer in an interface value, and the same one. -/
theorem ev_same_eq {tp te : TypeId} {ms : Array (String × TypeId)} {q : TypeId} {a : Addr} (hx : opv n e x = .iface tp (.pointer (some a))) (hy : opv n e y = .iface tp (.pointer (some a)))
    (hu : P.underlying t = some (.interface ms)) (hp : P.underlying tp = some (.pointer te)) (hc : (P.info? tp).map (fun ti => ti.comparable) = some true) (hte : (P.info? te).isSome = true) :
    Ev P (opv n e) (.binOp .eql t x y q) ty w (.bool true) := by
  obtain ⟨i, h1, h2⟩ : ∃ i, P.info? tp = some i ∧ i.comparable = true := by
    cases h : P.info? tp with
    | none => rw [h] at hc; cases hc
    | some i => rw [h] at hc; exact ⟨i, rfl, by simpa using hc⟩
  obtain ⟨j, h3⟩ := Option.isSome_iff_exists.1 hte
  have h := run_equalIn_iface_ptr_same (P := P) w 9998 a hu hp h1 h2 h3
  simp [Ev, execOp, hx, hy, eqGuard, binOp, Op.equal, Op.maxDepth, h]
theorem ev_same_ne {tp te : TypeId} {ms : Array (String × TypeId)} {q : TypeId} {a : Addr} (hx : opv n e x = .iface tp (.pointer (some a))) (hy : opv n e y = .iface tp (.pointer (some a)))
    (hu : P.underlying t = some (.interface ms)) (hp : P.underlying tp = some (.pointer te)) (hc : (P.info? tp).map (fun ti => ti.comparable) = some true) (hte : (P.info? te).isSome = true) :
    Ev P (opv n e) (.binOp .neq t x y q) ty w (.bool false) := by
  obtain ⟨i, h1, h2⟩ : ∃ i, P.info? tp = some i ∧ i.comparable = true := by
    cases h : P.info? tp with
    | none => rw [h] at hc; cases hc
    | some i => rw [h] at hc; exact ⟨i, rfl, by simpa using hc⟩
  obtain ⟨j, h3⟩ := Option.isSome_iff_exists.1 hte
  have h := run_equalIn_iface_ptr_same (P := P) w 9998 a hu hp h1 h2 h3
  simp [Ev, execOp, hx, hy, eqGuard, binOp, Op.equal, Op.maxDepth, h]

theorem ev_indexStr {s : ByteArray} {i : Nat} {k : IntKind} {b : UInt8} (hx : opv n e x = .string s) (hy : opv n e y = .int k (i : Nat)) (hu : P.underlying t = some .string) (hb : s[i]? = some b) :
    Ev P (opv n e) (.index t x y) ty w (.int .u8 (b.toNat : Nat)) := by
  simp [Ev, execOp, hx, hy, Instr.index, asIntOf, run_und hu, hb]

theorem ev_assertOk {q : TypeId} {v : Value} {ds : TypeDesc} (hx : opv n e x = .iface q v) (hu : P.underlying q = some ds) (hn : ifaceD ds = false) :
    Ev P (opv n e) (.typeAssert x t q true) ty w (.tuple #[v, .bool true]) := by
  unfold Ev
  simp only [execOp, Instr.typeAssert]
  cases ds <;> simp_all [go_sem, run_und hu, ifaceD]

theorem d_buildSlice {K : Nat → Prop} {W0 : World} {L : List Hl} {len el : Nat} {parts : Array (Nat × Operand)} {cs : Array Value} (H : Own K W0 w L)
    (hr : (execOp (opv n e) { dst := none, op := .buildSlice t len parts, type := ty, pos := "", after := #[], guard := none }).run P w = .ok (.value (.slice (some ⟨w.heap.size, 0, none⟩) len len)) (w.alloc (.cells cs el (0, 0)))) :
    Does P n e (.buildSlice t len parts) ty w fun v w' => ∃ b, v = .slice (some ⟨b, 0, none⟩) len len ∧ Own K W0 w' (L ++ [Hl.one b (.cells cs el (0, 0))]) :=
  (d_run hr).mono fun _ _ h => ⟨_, h.1, by rw [h.2]; exact H.alloc_end _⟩

/-- A new slice, longer than it shows. -/
theorem d_make2 {K : Nat → Prop} {W0 : World} {L : List Hl} {el bt nn mm : Nat} {zv : Value} {k1 k2 : IntKind} (H : Own K W0 w L) (hx : opv n e x = .int k1 (nn : Nat)) (hy : opv n e y = .int k2 (mm : Nat)) (hu : P.underlying t = some (.slice el))
    (hinfo : (P.info? el).map (fun ti => (ti.size, ti.bytes, ti.zero)) = some (1, bt, some zv)) (hz : zv.cells = #[zv]) (hle : nn ≤ mm) (hfit : bt * mm ≤ 281474976710656) (h63 : mm ≤ 9223372036854775807) :
    Does P n e (.makeSlice t x y) ty w fun v w' => ∃ b, v = .slice (some ⟨b, 0, none⟩) nn mm ∧ Own K W0 w' (L ++ [Hl.one b (.cells (Array.replicate mm zv) el (0, 0))]) := by
  obtain ⟨ti, g1, g2, g3, g4⟩ := info_of hinfo
  have hbt : (ti.bytes : Int) * ((mm : Nat) : Int) ≤ 281474976710656 := by
    have h : ((bt * mm : Nat) : Int) ≤ 281474976710656 := by omega
    rw [g3]
    rwa [Int.natCast_mul] at h
  have hr := run_make (P := P) w t el ti zv hu g1 g4 k1 k2 nn mm (by omega) (by omega) hbt (by omega)
  have hm : madeCells zv.cells ((mm : Int).toNat * ti.size) = Array.replicate mm zv := by
    rw [hz, g2]
    apply Array.ext'
    rw [toList_madeCells_one]
    simp
  rw [hm] at hr
  refine (d_run (w' := w.alloc (.cells (Array.replicate mm zv) el (0, 0))) (v := .slice (some ⟨w.heap.size, 0, none⟩) nn mm) ?_).mono fun _ _ h => ⟨_, h.1, by rw [h.2]; exact H.alloc_end _⟩
  have e1 : execOp (opv n e) { dst := none, op := .makeSlice t x y, type := ty, pos := "", after := #[], guard := none } = (do pure (.value (← Instr.makeSlice t (opv n e x) (opv n e y)))) := rfl
  rw [e1, Sem.run_bind, hx, hy, hr]
  simp
end
end Go.Proofs.YtgikfcmcgpcckaaGreatDoor.Sl
