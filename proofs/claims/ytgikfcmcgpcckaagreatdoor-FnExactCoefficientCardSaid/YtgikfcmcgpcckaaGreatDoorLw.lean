/- Literals of one word. A part of the proofs of FnExactDegree and FnExactCoefficient. -/
import Derived.Test.YtgikfcmcgpcckaaGreatDoorWz
namespace Go.Proofs.YtgikfcmcgpcckaaGreatDoor.Sl
open Go
section
variable {P : Program} {n : Nat} {e : Env} {w : World} {ty t t' : TypeId} {x y z : Operand} {K : Nat → Prop} {W0 : World} {L : List Hl} {i : Nat} {h : Hl}
theorem run_lit1 {el : TypeId} {v zv : Value} {bt : Nat} (hx : opv n e x = v) (hv : v.cells = #[v]) (hz : zv.cells = #[zv]) (hu : P.underlying t = some (.slice el)) (hinfo : (P.info? el).map (fun ti => (ti.size, ti.bytes, ti.zero)) = some (1, bt, some zv)) :
    (execOp (opv n e) { dst := none, op := .buildSlice t 1 #[(0, x)], type := ty, pos := "", after := #[], guard := none }).run P w = .ok (.value (.slice (some ⟨w.heap.size, 0, none⟩) 1 1)) (w.alloc (.cells #[v] el (0, 0))) := by
  obtain ⟨ti, g1, g2, g3, g4⟩ := info_of hinfo
  have hs : (P.info? el).map (fun ti => ti.size) = some 1 := by rw [g1]; simp [g2]
  have hzv : (zeroValue el).run P w = .ok zv w := by simp [zeroValue, typeInfo, g1, g4]
  have hm : Array.map (fun x => [zv][x % 1]?.getD default) (Array.range 1) = #[zv] := by
    apply Array.ext'
    simp [List.range_succ]
  have hf : Instr.fill (fun i => some (i, 1)) #[zv] [(0, v)] = some #[v] := by
    simp [Instr.fill, hv]
  simp [execOp, Instr.buildSlice, run_und hu, run_size hs, hzv, hz, hx, newRow, hm, hf]
theorem d_litX {xv : Int} (H : Own K W0 w L) (i : Nat) (hi : L[i]? = some h) (hw : WH h) (hx : opv n e x = .int .u64 xv) (h0 : 0 ≤ xv) (hu : P.underlying t = some (.slice 98))
    (hinfo : (P.info? 98).map (fun ti => (ti.size, ti.bytes, ti.zero)) = some (1, 8, some (.int .u64 0))) :
    Does P n e (.buildSlice t 1 #[(0, x)]) ty w fun v' w' => ∃ b h', v' = .slice (some ⟨b, 0, none⟩) 1 1 ∧ Own K W0 w' (L.set i h') ∧ Nst h h' ∧ Nv h' (.slice (some ⟨b, 0, none⟩) 1 1) 1 := by
  have hfresh : h w.heap.size = none := by
    cases hh : h w.heap.size with
    | none => rfl
    | some o => have := lt_of_heap (H.heap hi hh); omega
  refine (d_run (run_lit1 hx rfl rfl hu hinfo)).mono fun _ _ hh => ⟨w.heap.size, _, hh.1, by rw [hh.2]; exact H.alloc_into hi _, ⟨hw.put _ (Words.replicate 1 ⟨xv, h0, rfl⟩), .put fun o ho => by rw [hfresh] at ho; cases ho⟩, .inr ⟨w.heap.size, #[.int .u64 xv], rfl, put_at _ _ _, by simp⟩⟩
end
end Go.Proofs.YtgikfcmcgpcckaaGreatDoor.Sl
namespace Go.Proofs.YtgikfcmcgpcckaaGreatDoor.Sl
open Go
section
variable {P : Program} {n : Nat} {e : Env} {w : World} {ty t t' : TypeId} {x y : Operand} {i j k : Int}
theorem ev_subIv (hx : opv n e x = .int .i64 i) (hy : opv n e y = .int .i64 j) (h : i - j = k) (h1 : -9223372036854775808 ≤ k) (h2 : k ≤ 9223372036854775807) :
    Ev P (opv n e) (.binOp .sub t x y t') ty w (.int .i64 k) := by subst h; exact ev_subI hx hy h1 h2
theorem ev_addIv (hx : opv n e x = .int .i64 i) (hy : opv n e y = .int .i64 j) (h : i + j = k) (h1 : -9223372036854775808 ≤ k) (h2 : k ≤ 9223372036854775807) :
    Ev P (opv n e) (.binOp .add t x y t') ty w (.int .i64 k) := by subst h; exact ev_addI hx hy h1 h2
end
end Go.Proofs.YtgikfcmcgpcckaaGreatDoor.Sl
