/- Rows of bytes, a grown slice. A part of the proofs of FnExactDegree and FnExactCoefficient. -/
import Derived.Test.YtgikfcmcgpcckaaGreatDoorLw
namespace Go.Proofs.YtgikfcmcgpcckaaGreatDoor.Sl
open Go Go.RowKit

theorem Own.sub {K : Nat → Prop} {W0 w : World} {L L' : List Hl} (H : Own K W0 w L) (s : L'.Sublist L) : Own K W0 w L' :=
  { H with mine := fun h hh => H.mine h (s.subset hh), apart := H.apart.sublist s }

/-- Cells of bytes. -/
def bA (bs : List Nat) : Array Value := (bs.map fun x => Value.int .u8 (x : Nat)).toArray
theorem bA_size (bs : List Nat) : (bA bs).size = bs.length := by simp [bA]
theorem bA_get {bs : List Nat} {i x : Nat} (h : bs[i]? = some x) : (bA bs)[i]? = some (.int .u8 (x : Nat)) := by simp [bA, h]
theorem bA_one (bs : List Nat) : ∀ v ∈ (bA bs).toList, v.oneCell' = true := by
  intro v hv
  simp only [bA, List.mem_map] at hv
  obtain ⟨x, _, rfl⟩ := hv
  rfl

/-- What a slice of bytes reads from: a block, an offset; and the part of it as cells. -/
theorem BytesR.cells {R : Rd} {v : Value} {bs : List Nat} (h : BytesR R v bs) (hne : bs ≠ []) :
    ∃ b o c cs t fz, v = .slice (some ⟨b, o, none⟩) bs.length c ∧ R b (.cells cs t fz) ∧ cs.extract o (o + bs.length) = bA bs ∧ o + bs.length ≤ cs.size := by
  rcases h with ⟨p, c, _, rfl⟩ | ⟨b, o, c, cs, t, fz, h1, h2, h3⟩
  · exact absurd rfl hne
  · have hlast : bs.length - 1 < bs.length := by
      have := List.length_pos_iff.2 hne
      omega
    have h4 := h3 (bs.length - 1) bs[bs.length - 1] (by simp)
    have h5 : o + (bs.length - 1) < cs.size := by
      rcases Nat.lt_or_ge (o + (bs.length - 1)) cs.size with h | h
      · exact h
      · rw [Array.getElem?_eq_none h] at h4; cases h4
    refine ⟨b, o, c, cs, t, fz, h1, h2, ?_, by omega⟩
    apply Array.ext
    · simp [bA_size]; omega
    · intro i hi1 hi2
      rw [bA_size] at hi2
      have h6 := h3 i bs[i] (by simp)
      have h7 := bA_get (bs := bs) (i := i) (x := bs[i]) (by simp)
      have h8 : (cs.extract o (o + bs.length))[i]? = (bA bs)[i]? := by
        rw [Array.getElem?_extract, if_pos (by omega), h6, h7]
      rw [Array.getElem?_eq_getElem hi1, Array.getElem?_eq_getElem (by rw [bA_size]; exact hi2)] at h8
      exact Option.some.inj h8

theorem BytesR.of_block {R : Rd} {b c : Nat} {bs : List Nat} {cs : Array Value} {t : TypeId} {fz : Nat × Nat} (h : R b (.cells cs t fz)) (hc : ∀ (i x : Nat), bs[i]? = some x → cs[i]? = some (Value.int .u8 (x : Nat))) :
    BytesR R (.slice (some ⟨b, 0, none⟩) bs.length c) bs :=
  .inr ⟨b, 0, c, cs, t, fz, rfl, h, fun i x hx => by rw [Nat.zero_add]; exact hc i x hx⟩

section
variable {P : Program} {n : Nat} {e : Env} {w : World} {ty t tn : TypeId} {x y : Operand} {K : Nat → Prop} {W0 : World} {L : List Hl}

theorem run_firstCells {b o l c : Nat} {cs : Array Value} {tt : TypeId} {fz : Nat × Nat} (hb : w.heap[b]? = some (.cells cs tt fz)) (hle : o + l ≤ cs.size) :
    (Builtin.firstCells 1 l (.slice (some ⟨b, o, none⟩) l c)).run P w = .ok (cs.extract o (o + l)) w := by
  have := run_loadCells (P := P) (w := w) hb hle
  simp [Builtin.firstCells, this]

/-- append(s[:cap(s)], make([]T, k)...) where there is no room: a new slice. -/
theorem d_growZ {el bt sl kk b : Nat} {zv : Value} {cs : Array Value} {tt : TypeId} {fz : Nat × Nat} {kn : IntKind} (H : Own K W0 w L) (hx : opv n e x = .slice (some ⟨b, 0, none⟩) sl sl) (hy : opv n e y = .int kn (kk : Nat))
    (hu : P.underlying t = some (.slice el)) (htn : P.underlying tn = some (.int kn)) (hinfo : (P.info? el).map (fun ti => (ti.size, ti.bytes, ti.zero)) = some (1, bt, some zv)) (hz1 : zv.cells.size = 1)
    (hb : w.heap[b]? = some (.cells cs tt fz)) (hle : sl ≤ cs.size) (h0 : 0 < kk) (hsm : sl + kk ≤ 1000000) (hbt : bt ≤ 8) :
    Does P n e (.call { callee := .builtin .append, args := #[x, y], argTypes := #[t, tn] }) ty w fun v w' => ∃ b' cap' cs', v = .slice (some ⟨b', 0, none⟩) (sl + kk) cap' ∧ sl + kk ≤ cap' ∧ cs'.size = cap' ∧ Own K W0 w' (L ++ [Hl.one b' (.cells cs' el (0, 0))]) := by
  obtain ⟨ti, g1, g2, g3, g4⟩ := info_of hinfo
  have hw : IntKind.i64.wrap (kk : Int) = kk := by rw [IntKind.wrap_i64]; omega
  have hneg : ¬ ((kk : Int) < 0) := by omega
  have h48i : ¬ (281474976710656 < (kk : Int) * (ti.bytes : Int)) := by
    rw [← Int.natCast_mul]
    have : kk * ti.bytes ≤ kk * 8 := Nat.mul_le_mul_left _ (by omega)
    omega
  have hns : ¬ (kk * ti.size = 0) := by rw [g2]; omega
  have hroom : ¬ (sl + kk ≤ sl) := by omega
  have h63' : ¬ (9223372036854775807 < (sl : Int) + (kk : Int)) := by omega
  have hcap : sl + kk ≤ grownCap w (sl + kk) sl el := by unfold grownCap Question.cut; exact Nat.le_add_right _ _
  have h48' : ¬ (281474976710656 < Builtin.nextslicecap (sl + kk) sl * ti.bytes) := by
    have h1 : (sl + kk) * ti.bytes ≤ (sl + kk) * 8 := Nat.mul_le_mul_left _ (by omega)
    have := growslice_fits (need := sl + kk) (old := sl) (bytes := ti.bytes) (by omega) (by omega)
    omega
  have hfc := run_firstCells (P := P) (w := w.drew) (l := sl) (c := sl) (o := 0) hb (by omega)
  have hzv : (zeroValue el).run P w.drew = .ok zv w.drew := by simp [zeroValue, typeInfo, g1, g4]
  have hr : (Builtin.append_ #[t, tn] ty #[.slice (some ⟨b, 0, none⟩) sl sl, .int kn (kk : Nat)]).run P w =
      .ok (.slice (some ⟨w.heap.size, 0, none⟩) (sl + kk) (grownCap w (sl + kk) sl el)) (w.drew.alloc (.cells (cs.extract 0 (0 + sl) ++ Builtin.zeroCells zv.cells kk ++ Builtin.zeroCells zv.cells (grownCap w (sl + kk) sl el - (sl + kk))) el (0, 0))) := by
    rw [g2] at hns
    simp [Builtin.append_, run_und hu, run_und htn, Go.sizeOf, typeInfo, g1, g2, asInt, asIntOf, hw, hneg, h63', h48', h48i, Question.forced, hfc, newRow, grownCap, hroom, zeroValue, g4]
    intro h; omega
  refine (d_run (w' := w.drew.alloc (.cells (cs.extract 0 (0 + sl) ++ Builtin.zeroCells zv.cells kk ++ Builtin.zeroCells zv.cells (grownCap w (sl + kk) sl el - (sl + kk))) el (0, 0))) (v := .slice (some ⟨w.heap.size, 0, none⟩) (sl + kk) (grownCap w (sl + kk) sl el)) ?_).mono fun _ _ h => ⟨_, _, cs.extract 0 (0 + sl) ++ Builtin.zeroCells zv.cells kk ++ Builtin.zeroCells zv.cells (grownCap w (sl + kk) sl el - (sl + kk)), h.1, hcap, ?_, by rw [h.2]; exact H.drew.alloc_end _⟩
  · have e1 : execOp (opv n e) { dst := none, op := .call { callee := .builtin .append, args := #[x, y], argTypes := #[t, tn] }, type := ty, pos := "", after := #[], guard := none } =
        (do pure (.value (← Builtin.append_ #[t, tn] ty (#[x, y].map (opv n e))))) := rfl
    rw [e1, Sem.run_bind]
    have e2 : #[x, y].map (opv n e) = #[.slice (some ⟨b, 0, none⟩) sl sl, .int kn (kk : Nat)] := by simp [hx, hy]
    rw [e2, hr]
    rfl
  · have hzz : ∀ m, (Builtin.zeroCells zv.cells m).size = m := fun m => by simp [Builtin.zeroCells, hz1]
    simp only [Array.size_append, hzz, Array.size_extract]
    omega
end
end Go.Proofs.YtgikfcmcgpcckaaGreatDoor.Sl
