/- Walks through functions of the program: each call comes to what its theorem says. A part of the proofs of FnExactDegree and FnExactCoefficient. -/
import Derived.Test.YtgikfcmcgpcckaaGreatDoorGp4
namespace Go.Proofs.YtgikfcmcgpcckaaGreatDoor
open Go Go.RowKit Sl

/-- A scalar that may be read. -/
def Scl (R : Rd) (c : Int) (v : Value) (bs : List Nat) : Prop :=
  ∃ (sb : Nat) (cv od kv : Value), v = .iface 159 (.pointer (some ⟨sb, 0, none⟩)) ∧ R sb (.cells #[cv, od, kv] 162 (0, 0)) ∧ Grp R c cv od ∧ BytesR R kv bs ∧ bs.length = szOf c
theorem Scl.mono {R R' : Rd} {c : Int} {v : Value} {bs : List Nat} (h : ∀ k o, R k o → R' k o) : Scl R c v bs → Scl R' c v bs
  | ⟨sb, cv, od, kv, h1, h2, h3, h4, h5⟩ => ⟨sb, cv, od, kv, h1, h _ _ h2, h3.mono h, h4.mono h, h5⟩

/-- What may be read of old, and of a new part. -/
def Un (R : Rd) (h : Hl) : Rd := fun k o => R k o ∨ h k = some o

theorem kept_begin {w : World} (k : Nat) (o : Obj) (h : wR w k o) : Kept (fun k => k < w.heap.size) w k o := ⟨lt_of_heap h, h⟩

theorem bytesR_at {R : Rd} {b c n : Nat} {bs : List Nat} {cs : Array Value} {t : TypeId} {fz : Nat × Nat} (hn : bs.length = n) (h : R b (.cells cs t fz)) (hc : ∀ (i x : Nat), bs[i]? = some x → cs[i]? = some (Value.int .u8 (x : Nat))) : BytesR R (.slice (some ⟨b, 0, none⟩) n c) bs := by
  rw [← hn]; exact BytesR.of_block h hc

section
variable {K : Nat → Prop} {W0 w : World} {R : Rd}

theorem zUnmarshalBinary {sb kb0 n0 k0 : Nat} {c : Int} {cv od v : Value} {bs : List Nat} (H : Own K W0 w [Hl.one sb (sclO cv od kb0 n0 k0)]) (hg : Grp (Kept K W0) c cv od) (hv : BytesR (Kept K W0) v bs) (hs : isSc c bs = true) (hb : ∀ b ∈ bs, b < 256) :
    Calls Tryz.prog 118 #[.pointer (some ⟨sb, 0, none⟩), v] w fun e w' => ∃ u, e = .returned u ∧ (u = .nilIface ∧ ∃ kb, Own K W0 w' [Hl.one sb (sclO cv od kb (szOf c) (szOf c)), Hl.one kb (.cells (bA bs) 5 (0, 0))]) := by
  have hlen := isSc_len hs
  have hpos := szOf_pos c
  have hne : bs ≠ [] := fun h => by rw [h] at hlen; simp at hlen; omega
  obtain ⟨vb, vo, vc, vcs, vt, vfz, rfl, _, _, _⟩ := hv.cells hne
  refine bodyW (n := 14) (args := [.pointer (some ⟨sb, 0, none⟩), .slice (some ⟨vb, vo, none⟩) bs.length vc]) Tryz.func118 rfl rfl rfl ?_
  refine c_seqW ?_
  refine c_regionW ?_
  refine s_valW ev_assign ?_
  refine s_nilW ?_
  refine x_norm ?_
  refine c_seqW ?_
  refine c_seqW ?_
  refine c_regionW ?_
  refine s_valW ev_move ?_
  refine s_valW (ev_eqSliceNil rfl rfl Tryz.underlying29) ?_
  refine s_valW ev_move ?_
  refine s_valgW rfl rfl ev_move ?_
  refine s_valgW rfl rfl ev_move ?_
  refine s_effgW rfl rfl (d_call Tryz.call123 (zUnmarshal H hg hv hs hb)) ?_
  rintro _ w1 ⟨rfl, kb, H1⟩
  refine s_valgW rfl rfl (ev_not rfl) ?_
  refine s_valW (ev_pick_f rfl) ?_
  refine s_nilW ?_
  refine x_norm ?_
  refine c_falseW rfl ?_
  refine c_skipW ?_
  refine x_norm ?_
  refine c_seqW ?_
  refine c_regionW ?_
  refine s_valW ev_assign ?_
  refine s_nilW ?_
  refine x_norm ?_
  refine c_retW ?_
  exact r_ret rfl rfl ⟨rfl, kb, H1⟩

theorem newScalarM (cv od : Value) (w : World) : (callMethod (.iface 71 (.agg #[cv, od])) "NewScalar" #[]).run Tryz.prog w = .ok (.enter 86 #[.agg #[cv, od]]) w := by kernel_rfl
theorem unmarshalM (b : Nat) (v : Value) (w : World) : (callMethod (.iface 159 (.pointer (some ⟨b, 0, none⟩))) "UnmarshalBinary" #[v]).run Tryz.prog w = .ok (.enter 118 #[.pointer (some ⟨b, 0, none⟩), v]) w := by kernel_rfl

theorem zScalarOf {c : Int} {cv od v : Value} {bs : List Nat} (hR : ∀ k o, R k o → wR w k o) (hg : Grp R c cv od) (hv : BytesR R v bs) (hs : isSc c bs = true) (hb : ∀ b ∈ bs, b < 256) :
    Calls Tryz.prog 23 #[.iface 71 (.agg #[cv, od]), v] w fun e w' => ∃ u, e = .returned u ∧ (∃ h, Makes w w' h ∧ Scl (Un R h) c u bs) := by
  have hRk : ∀ k o, R k o → Kept (fun k => k < w.heap.size) w k o := fun k o h => kept_begin k o (hR k o h)
  refine bodyW (n := 15) (args := [.iface 71 (.agg #[cv, od]), v]) Tryz.func23 rfl rfl rfl ?_
  refine c_seqW ?_
  refine c_regionW ?_
  refine s_valW ev_assign ?_
  refine s_nilW ?_
  refine x_norm ?_
  refine c_seqW ?_
  refine c_regionW ?_
  refine s_valW ev_move ?_
  refine s_effW (d_invoke (newScalarM cv od _) (zNewScalar (Own.begin w) (hg.mono hRk))) ?_
  rintro _ w1 ⟨kb0, sb, rfl, H1⟩
  have H1 : Own (fun k => k < w.heap.size) w w1 [Hl.one sb (sclO cv od kb0 (szOf c) (szOf c))] := H1.sub (List.Sublist.cons _ (List.Sublist.refl _))
  refine s_valW ev_assign ?_
  refine s_nilW ?_
  refine x_norm ?_
  refine c_seqW ?_
  refine c_seqW ?_
  refine c_regionW ?_
  refine s_valW ev_move ?_
  refine s_valW ev_move ?_
  refine s_effW (d_invoke (unmarshalM sb v _) (zUnmarshalBinary H1 (hg.mono hRk) (hv.mono hRk) hs hb)) ?_
  rintro _ w2 ⟨rfl, kb, H2⟩
  refine s_valW (ev_nilNil_ne rfl rfl Tryz.underlying61) ?_
  refine s_nilW ?_
  refine x_norm ?_
  refine c_falseW rfl ?_
  refine c_skipW ?_
  refine x_norm ?_
  refine c_seqW ?_
  refine c_regionW ?_
  refine s_valW ev_move ?_
  refine s_valW ev_assign ?_
  refine s_nilW ?_
  refine x_norm ?_
  refine c_retW ?_
  refine r_ret rfl rfl ⟨_, H2.join.toMakes (i := 0) rfl, sb, cv, od, _, rfl, .inr (Hl.or_left (one_at _ _)), hg.mono fun _ _ h => .inl h, ?_, isSc_len hs⟩
  have hd : (Hl.one sb (sclO cv od kb (szOf c) (szOf c))).disj (Hl.one kb (.cells (bA bs) 5 (0, 0))) := (List.pairwise_cons.1 H2.apart).1 _ (by simp)
  exact bytesR_at (isSc_len hs) (.inr (Hl.or_right hd (one_at _ _))) (fun i x h => bA_get h)
end
end Go.Proofs.YtgikfcmcgpcckaaGreatDoor
