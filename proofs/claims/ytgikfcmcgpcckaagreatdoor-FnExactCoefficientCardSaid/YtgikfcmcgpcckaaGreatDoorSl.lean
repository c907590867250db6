/- Parts of memory that a call owns, and what it keeps. A part of the proofs of FnExactDegree and FnExactCoefficient. -/
import Derived.WalkKit
import Derived.Deep.Draws
namespace Go.Proofs.YtgikfcmcgpcckaaGreatDoor.Sl
open Go Go.RowKit

/-- A part of memory: what it holds of each block. -/
abbrev Hl := Nat → Option Obj
/-- What may be read. -/
abbrev Rd := Nat → Obj → Prop
def Hl.rd (h : Hl) : Rd := fun k o => h k = some o
def Hl.emp : Hl := fun _ => none
def Hl.one (b : Nat) (o : Obj) : Hl := fun k => if k = b then some o else none
def Hl.put (h : Hl) (b : Nat) (o : Obj) : Hl := fun k => if k = b then some o else h k
def Hl.disj (h g : Hl) : Prop := ∀ k, h k = none ∨ g k = none
/-- Union, the first one first. -/
def Hl.or (h g : Hl) : Hl := fun k => match h k with | some o => some o | none => g k

/-- What is kept and may be read. -/
def Kept (K : Nat → Prop) (W0 : World) : Rd := fun k o => K k ∧ W0.heap[k]? = some o

structure Base (K : Nat → Prop) (W0 w : World) : Prop where
  os : w.os = W0.os
  tape : w.tape = W0.tape
  output : w.output = W0.output
  size : W0.heap.size ≤ w.heap.size
  bound : ∀ k, K k → k < W0.heap.size
  keep : ∀ k, K k → w.heap[k]? = W0.heap[k]?

/-- Blocks in K are as they were in W0; the parts of L are ours, apart from K and from each other. -/
structure Own (K : Nat → Prop) (W0 w : World) (L : List Hl) : Prop extends Base K W0 w where
  mine : ∀ h ∈ L, ∀ k o, h k = some o → ¬ K k ∧ w.heap[k]? = some o
  apart : L.Pairwise Hl.disj

theorem Hl.disj.symm {h g : Hl} (d : h.disj g) : g.disj h := fun k => (d k).symm

theorem Own.start (K : Nat → Prop) (w : World) (hK : ∀ k, K k → k < w.heap.size) : Own K w w [] :=
  { os := rfl, tape := rfl, output := rfl, size := Nat.le_refl _, bound := hK
    keep := fun _ _ => rfl
    mine := fun _ h => by cases h
    apart := .nil }

theorem Own.heap {K : Nat → Prop} {W0 w : World} {L : List Hl} (H : Own K W0 w L) {i : Nat} {h : Hl} (hi : L[i]? = some h) {k : Nat} {o : Obj} (hk : h k = some o) : w.heap[k]? = some o :=
  (H.mine h (List.mem_of_getElem? hi) k o hk).2

theorem Own.kept {K : Nat → Prop} {W0 w : World} {L : List Hl} (H : Own K W0 w L) {k : Nat} {o : Obj} (hk : Kept K W0 k o) : w.heap[k]? = some o := by
  rw [H.keep k hk.1]; exact hk.2

theorem lt_of_heap {w : World} {k : Nat} {o : Obj} (h : w.heap[k]? = some o) : k < w.heap.size := by
  rcases Nat.lt_or_ge k w.heap.size with h' | h'
  · exact h'
  · rw [Array.getElem?_eq_none h'] at h; cases h

/-- A selection of the parts, in whatever order. -/
def pick (L : List Hl) (is : List Nat) : List Hl := is.map fun i => L.getD i Hl.emp

theorem getD_mem_or {L : List Hl} {i : Nat} : L.getD i Hl.emp ∈ L ∨ L.getD i Hl.emp = Hl.emp := by
  rw [List.getD_eq_getElem?_getD]
  cases h : L[i]? with
  | none => right; rfl
  | some x => left; exact List.mem_of_getElem? h

theorem disj_emp {h : Hl} : h.disj Hl.emp := fun _ => .inr rfl

theorem pairwise_at {L : List Hl} (h : L.Pairwise Hl.disj) {i j : Nat} (hij : i ≠ j) : (L.getD i Hl.emp).disj (L.getD j Hl.emp) := by
  have key : ∀ i j, i < j → (L.getD i Hl.emp).disj (L.getD j Hl.emp) := by
    intro i j hlt
    simp only [List.getD_eq_getElem?_getD]
    cases hj : L[j]? with
    | none => exact disj_emp
    | some y =>
      cases hi : L[i]? with
      | none => exact disj_emp.symm
      | some x =>
        obtain ⟨hj', rfl⟩ := List.getElem?_eq_some_iff.1 hj
        obtain ⟨hi', rfl⟩ := List.getElem?_eq_some_iff.1 hi
        exact List.pairwise_iff_getElem.1 h i j hi' hj' hlt
  rcases Nat.lt_or_gt_of_ne hij with h' | h'
  · exact key i j h'
  · exact (key j i h').symm

theorem Own.pick {K : Nat → Prop} {W0 w : World} {L : List Hl} (H : Own K W0 w L) (is : List Nat) (hn : is.Nodup := by decide) : Own K W0 w (Sl.pick L is) :=
  { H with
    mine := fun h hh k o hk => by
      obtain ⟨i, _, rfl⟩ := List.mem_map.1 hh
      rcases getD_mem_or (L := L) (i := i) with h1 | h1
      · exact H.mine _ h1 k o hk
      · rw [h1] at hk; cases hk
    apart := by
      unfold Sl.pick
      rw [List.pairwise_map]
      exact hn.imp fun {a b} hab => pairwise_at H.apart hab }

theorem Own.tail {K : Nat → Prop} {W0 w : World} {h : Hl} {L : List Hl} (H : Own K W0 w (h :: L)) : Own K W0 w L :=
  { H with mine := fun g hg => H.mine g (List.mem_cons_of_mem _ hg), apart := H.apart.tail }

theorem Own.left {K : Nat → Prop} {W0 w : World} {A F : List Hl} (H : Own K W0 w (A ++ F)) : Own K W0 w A :=
  { H with mine := fun g hg => H.mine g (List.mem_append_left _ hg), apart := (List.pairwise_append.1 H.apart).1 }

theorem Own.right {K : Nat → Prop} {W0 w : World} {A F : List Hl} (H : Own K W0 w (A ++ F)) : Own K W0 w F :=
  { H with mine := fun g hg => H.mine g (List.mem_append_right _ hg), apart := (List.pairwise_append.1 H.apart).2.1 }

/-- What a callee that is handed A may read besides: what was kept, and the other parts. -/
def Av (K : Nat → Prop) (W0 : World) (F : List Hl) : Rd := fun k o => Kept K W0 k o ∨ ∃ h ∈ F, h k = some o

/-- The set of blocks that a callee must keep. -/
def keepOf (w : World) (A : List Hl) : Nat → Prop := fun k => k < w.heap.size ∧ ∀ h ∈ A, h k = none

theorem Own.enter {K : Nat → Prop} {W0 w : World} {A F : List Hl} (H : Own K W0 w (A ++ F)) : Own (keepOf w A) w w A :=
  { os := rfl, tape := rfl, output := rfl, size := Nat.le_refl _, bound := fun _ h => h.1, keep := fun _ _ => rfl
    mine := fun h hh k o hk => ⟨fun hK => (by rw [hK.2 h hh] at hk; cases hk), (H.mine h (List.mem_append_left _ hh) k o hk).2⟩
    apart := H.left.apart }

theorem Own.avail {K : Nat → Prop} {W0 w : World} {A F : List Hl} (H : Own K W0 w (A ++ F)) {k : Nat} {o : Obj} (h : Av K W0 F k o) : Kept (keepOf w A) w k o := by
  rcases h with h | ⟨g, hg, hk⟩
  · have hh := H.kept h
    refine ⟨⟨lt_of_heap hh, fun a ha => ?_⟩, hh⟩
    cases hak : a k with
    | none => rfl
    | some o' => exact absurd h.1 (H.mine a (List.mem_append_left _ ha) k o' hak).1
  · have hh := (H.mine g (List.mem_append_right _ hg) k o hk).2
    refine ⟨⟨lt_of_heap hh, fun a ha => ?_⟩, hh⟩
    rcases (List.pairwise_append.1 H.apart).2.2 a ha g hg k with h1 | h1
    · exact h1
    · rw [hk] at h1; cases h1

theorem Own.back {K : Nat → Prop} {W0 w w' : World} {A F A' : List Hl} (H : Own K W0 w (A ++ F)) (H' : Own (keepOf w A) w w' A') : Own K W0 w' (A' ++ F) := by
  have hKk : ∀ k, K k → keepOf w A k := fun k hk => by
    refine ⟨Nat.lt_of_lt_of_le (H.bound k hk) H.size, fun a ha => ?_⟩
    cases hak : a k with
    | none => rfl
    | some o' => exact absurd hk (H.mine a (List.mem_append_left _ ha) k o' hak).1
  have hF : ∀ g ∈ F, ∀ k o, g k = some o → keepOf w A k ∧ w.heap[k]? = some o := fun g hg k o hk => by
    have := H.avail (k := k) (o := o) (.inr ⟨g, hg, hk⟩)
    exact this
  exact
    { os := H'.os.trans H.os, tape := H'.tape.trans H.tape, output := H'.output.trans H.output, size := Nat.le_trans H.size H'.size, bound := H.bound
      keep := fun k hk => (H'.keep k (hKk k hk)).trans (H.keep k hk)
      mine := fun h hh k o hk => by
        rcases List.mem_append.1 hh with h1 | h1
        · obtain ⟨h2, h3⟩ := H'.mine h h1 k o hk
          exact ⟨fun hK => h2 (hKk k hK), h3⟩
        · obtain ⟨h2, h3⟩ := hF h h1 k o hk
          refine ⟨fun hK => (H.mine h (List.mem_append_right _ h1) k o hk).1 hK, ?_⟩
          rw [H'.keep k h2]; exact h3
      apart := by
        rw [List.pairwise_append]
        refine ⟨H'.apart, H.right.apart, fun a ha g hg k => ?_⟩
        cases hgk : g k with
        | none => exact .inr rfl
        | some o =>
          left
          cases hak : a k with
          | none => rfl
          | some o' => exact absurd (hF g hg k o hgk).1 (H'.mine a ha k o' hak).1 }

/-- THE CONTRACT: handed the parts A, with the readable part as it may be, the call returns; it hands back parts. -/
def Tri (P : Program) (f : FuncId) (args : Array Value) (ro : Rd → Prop) (A : List Hl) (Post : Value → List Hl → Prop) : Prop :=
  ∀ K W0 w, ro (Kept K W0) → Own K W0 w A → Calls P f args w fun e w' => ∃ v A', e = .returned v ∧ Post v A' ∧ Own K W0 w' A'

/-- The contract at a call, whatever else is ours. -/
theorem Tri.call {P : Program} {f : FuncId} {args : Array Value} {ro : Rd → Prop} {A : List Hl} {Post : Value → List Hl → Prop} (T : Tri P f args ro A Post)
    {K : Nat → Prop} {W0 w : World} {F : List Hl} (H : Own K W0 w (A ++ F)) (hro : ∀ R : Rd, (∀ k o, Av K W0 F k o → R k o) → ro R) :
    Calls P f args w fun e w' => ∃ v A', e = .returned v ∧ Post v A' ∧ Own K W0 w' (A' ++ F) :=
  (T _ _ _ (hro _ fun _ _ h => H.avail h) H.enter).mono fun _ _ ⟨v, A', he, hp, ho⟩ => ⟨v, A', he, hp, H.back ho⟩

/-! ### Steps of memory -/

theorem Own.put {K : Nat → Prop} {W0 w : World} {A B : List Hl} {h : Hl} (H : Own K W0 w (A ++ h :: B)) {b : Nat} {o o' : Obj} (hb : h b = some o) {w' : World}
    (hos : w'.os = w.os) (ht : w'.tape = w.tape) (hout : w'.output = w.output) (hsz : w.heap.size ≤ w'.heap.size) (hsame : ∀ k, k ≠ b → k < w.heap.size → w'.heap[k]? = w.heap[k]?) (hat : w'.heap[b]? = some o') :
    Own K W0 w' (A ++ h.put b o' :: B) := by
  have hbK : ¬ K b := (H.mine h (by simp) b o hb).1
  have hd := List.pairwise_append.1 H.apart
  have hd2 := List.pairwise_cons.1 hd.2.1
  have hput : ∀ g : Hl, g.disj h → g.disj (h.put b o') := fun g hg k => by
    unfold Hl.put
    by_cases hk : k = b
    · subst hk
      rcases hg k with h1 | h1
      · exact .inl h1
      · rw [hb] at h1; cases h1
    · rw [if_neg hk]; exact hg k
  have hoth : ∀ g : Hl, g ∈ A ++ h :: B → g.disj h → ∀ k o, g k = some o → ¬ K k ∧ w'.heap[k]? = some o := fun g hg hdj k o hk => by
    have h1 := H.mine g hg k o hk
    refine ⟨h1.1, ?_⟩
    by_cases hkb : k = b
    · subst hkb
      rcases hdj k with h2 | h2
      · rw [hk] at h2; cases h2
      · rw [hb] at h2; cases h2
    · rw [hsame k hkb (lt_of_heap h1.2)]; exact h1.2
  exact
    { os := hos.trans H.os, tape := ht.trans H.tape, output := hout.trans H.output, size := Nat.le_trans H.size hsz, bound := H.bound
      keep := fun k hk => by
        rw [hsame k (fun e => hbK (e ▸ hk)) (Nat.lt_of_lt_of_le (H.bound k hk) H.size)]; exact H.keep k hk
      mine := fun g hg k o hk => by
        rcases List.mem_append.1 hg with h1 | h1
        · exact hoth g (List.mem_append_left _ h1) (hd.2.2 g h1 h (by simp)) k o hk
        · rcases List.mem_cons.1 h1 with h2 | h2
          · subst h2
            unfold Hl.put at hk
            by_cases hkb : k = b
            · rw [if_pos hkb] at hk; subst hkb; exact ⟨hbK, hat.trans hk⟩
            · rw [if_neg hkb] at hk
              have h1 := H.mine h (by simp) k o hk
              exact ⟨h1.1, by rw [hsame k hkb (lt_of_heap h1.2)]; exact h1.2⟩
          · exact hoth g (by simp [h2]) (hd2.1 g h2).symm k o hk
      apart := by
        rw [List.pairwise_append]
        refine ⟨hd.1, List.pairwise_cons.2 ⟨fun g hg => (hput g (hd2.1 g hg).symm).symm, hd2.2⟩, fun a ha g hg => ?_⟩
        rcases List.mem_cons.1 hg with h2 | h2
        · subst h2; exact hput a (hd.2.2 a ha h (by simp))
        · exact hd.2.2 a ha g (by simp [h2]) }

theorem Own.drewN {K : Nat → Prop} {W0 w : World} {L : List Hl} (H : Own K W0 w L) (n : Nat) : Own K W0 (w.drewN n) L :=
  { H with }
theorem Own.drew {K : Nat → Prop} {W0 w : World} {L : List Hl} (H : Own K W0 w L) : Own K W0 w.drew L :=
  { H with }

theorem Own.alloc {K : Nat → Prop} {W0 w : World} {L : List Hl} (H : Own K W0 w L) (o : Obj) : Own K W0 (w.alloc o) (Hl.one w.heap.size o :: L) :=
  { os := H.os, tape := H.tape, output := H.output, size := Nat.le_trans H.size (by simp), bound := H.bound
    keep := fun k hk => by rw [Below.heap_alloc _ _ _ (Nat.lt_of_lt_of_le (H.bound k hk) H.size)]; exact H.keep k hk
    mine := fun g hg k o' hk => by
      rcases List.mem_cons.1 hg with h | h
      · subst h
        unfold Hl.one at hk
        by_cases hkb : k = w.heap.size
        · rw [if_pos hkb] at hk
          cases hk
          refine ⟨fun hK => ?_, ?_⟩
          · have := H.bound k hK; have := H.size; omega
          · subst hkb
            show (w.heap.push o)[w.heap.size]? = _
            simp
        · rw [if_neg hkb] at hk; cases hk
      · have h1 := H.mine g h k o' hk
        exact ⟨h1.1, by rw [Below.heap_alloc _ _ _ (lt_of_heap h1.2)]; exact h1.2⟩
    apart := List.pairwise_cons.2 ⟨fun g hg k => by
      unfold Hl.one
      by_cases hkb : k = w.heap.size
      · right
        cases hgk : g k with
        | none => rfl
        | some o' => have := lt_of_heap (H.mine g hg k o' hgk).2; omega
      · left; rw [if_neg hkb], H.apart⟩ }

/-- Two parts as one. -/
theorem Own.join {K : Nat → Prop} {W0 w : World} {h g : Hl} {L : List Hl} (H : Own K W0 w (h :: g :: L)) : Own K W0 w (h.or g :: L) :=
  { H with
    mine := fun x hx k o hk => by
      rcases List.mem_cons.1 hx with h1 | h1
      · subst h1
        unfold Hl.or at hk
        cases hh : h k with
        | some o' => rw [hh] at hk; cases hk; exact H.mine h (by simp) k o hh
        | none => rw [hh] at hk; exact H.mine g (by simp) k o hk
      · exact H.mine x (by simp [h1]) k o hk
    apart := by
      have h1 := List.pairwise_cons.1 H.apart
      have h2 := List.pairwise_cons.1 h1.2
      refine List.pairwise_cons.2 ⟨fun x hx k => ?_, h2.2⟩
      unfold Hl.or
      rcases h1.1 x (by simp [hx]) k with h3 | h3
      · rw [h3]; exact h2.1 x hx k
      · exact .inr h3 }

/-- Under the first of two disjoint parts; the union holds what each holds. -/
theorem Hl.or_left {h g : Hl} {k : Nat} {o : Obj} (hk : h k = some o) : (h.or g) k = some o := by unfold Hl.or; rw [hk]
theorem Hl.or_right {h g : Hl} (d : h.disj g) {k : Nat} {o : Obj} (hk : g k = some o) : (h.or g) k = some o := by
  unfold Hl.or
  rcases d k with h1 | h1
  · rw [h1]; exact hk
  · rw [hk] at h1; cases h1

/-- A part is cut in two, at a set of blocks. -/
def Hl.cut (h : Hl) (S : Nat → Prop) [DecidablePred S] : Hl := fun k => if S k then h k else none
theorem Own.split {K : Nat → Prop} {W0 w : World} {h : Hl} {L : List Hl} (H : Own K W0 w (h :: L)) (S : Nat → Prop) [DecidablePred S] : Own K W0 w (h.cut S :: h.cut (fun k => ¬ S k) :: L) :=
  { H with
    mine := fun x hx k o hk => by
      have hcut : ∀ (T : Nat → Prop) [DecidablePred T], h.cut T k = some o → h k = some o := fun T _ e => by
        unfold Hl.cut at e; split at e
        · exact e
        · cases e
      rcases List.mem_cons.1 hx with h1 | h1
      · subst h1; exact H.mine h (by simp) k o (hcut S hk)
      · rcases List.mem_cons.1 h1 with h2 | h2
        · subst h2; exact H.mine h (by simp) k o (hcut _ hk)
        · exact H.mine x (by simp [h2]) k o hk
    apart := by
      have h1 := List.pairwise_cons.1 H.apart
      have hd : ∀ (T : Nat → Prop) [DecidablePred T] (x : Hl), h.disj x → (h.cut T).disj x := fun T _ x hx k => by
        unfold Hl.cut
        split
        · exact hx k
        · exact .inl rfl
      refine List.pairwise_cons.2 ⟨fun x hx => ?_, List.pairwise_cons.2 ⟨fun x hx => hd _ x (h1.1 x hx), h1.2⟩⟩
      rcases List.mem_cons.1 hx with h2 | h2
      · subst h2
        intro k
        unfold Hl.cut
        by_cases hs : S k
        · right; rw [if_neg (fun hn => hn hs)]
        · left; rw [if_neg hs]
      · exact hd _ x (h1.1 x h2) }

end Go.Proofs.YtgikfcmcgpcckaaGreatDoor.Sl
