/- Walks through functions of the program: each call comes to what its theorem says. A part of the proofs of FnExactDegree and FnExactCoefficient. -/
import Derived.Test.YtgikfcmcgpcckaaGreatDoorGp2
namespace Go.Proofs.YtgikfcmcgpcckaaGreatDoor
open Go Go.RowKit Sl

theorem ltBE_at {xs ys : List Nat} (hl : xs.length = ys.length) (_hx : ∀ b ∈ xs, b < 256) (hy : ∀ b ∈ ys, b < 256) (hlt : BE xs < BE ys) {p : Nat} (hp : p < xs.length)
    (heq : ∀ j, j < p → xs[j]? = ys[j]?) (hne : xs[p]? ≠ ys[p]? ∨ p + 1 = xs.length) : xs[p] < ys[p]'(by omega) := by
  rcases Nat.lt_trichotomy (xs[p]) (ys[p]'(by omega)) with h | h | h
  · exact h
  · exfalso
    have h1 : xs[p]? = ys[p]? := by rw [List.getElem?_eq_getElem hp, List.getElem?_eq_getElem (by omega), h]
    rcases hne with h2 | h2
    · exact h2 h1
    · have : xs = ys := by
        apply List.ext_getElem?
        intro j
        by_cases hj : j < p
        · exact heq j hj
        · by_cases hjp : j = p
          · rw [hjp]; exact h1
          · rw [List.getElem?_eq_none (by omega), List.getElem?_eq_none (by omega)]
      rw [this] at hlt
      exact absurd hlt (Nat.lt_irrefl _)
  · exfalso
    have := BE_lt_of ys xs hl.symm hy p (by omega) (fun k hk => (heq k hk).symm) h
    omega

theorem zIsLess {w : World} {v1 v2 : Value} {xs ys : List Nat} (h1 : BytesR (wR w) v1 xs) (h2 : BytesR (wR w) v2 ys) (hl : xs.length = ys.length) (h0 : 0 < xs.length) (hm : xs.length ≤ 66)
    (hx : ∀ b ∈ xs, b < 256) (hy : ∀ b ∈ ys, b < 256) (hlt : BE xs < BE ys) :
    Calls Tryz.prog 124 #[v1, v2] w fun e w' => ∃ u, e = .returned u ∧ (u = .int .i64 1 ∧ Below w.heap.size w w') := by
  obtain ⟨p1, c1, rfl⟩ := h1.slice
  obtain ⟨p2, c2, rfl⟩ := h2.slice
  refine bodyW (n := 43) (args := [.slice p1 xs.length c1, .slice p2 ys.length c2]) Tryz.func124 rfl rfl rfl ?_
  refine c_seqW ?_
  refine c_regionW ?_
  refine s_valW ev_assign ?_
  refine s_nilW ?_
  refine x_norm ?_
  refine c_seqW ?_
  refine c_regionW ?_
  refine s_valW ev_move ?_
  refine s_valW (ev_len_slice rfl Tryz.underlying29) ?_
  refine s_valW ((ev_subIv (k := ((xs.length - 1 : Nat) : Int)) rfl rfl (by omega) (by omega) (by omega))) ?_
  refine s_valW ev_assign ?_
  refine s_nilW ?_
  refine x_norm ?_
  refine c_seqW ?_
  refine c_seqW ?_
  refine c_regionW ?_
  refine s_valW ev_move ?_
  refine s_valW (ev_len_slice rfl Tryz.underlying29) ?_
  refine s_valW ((ev_subIv (k := ((xs.length - 1 : Nat) : Int)) rfl rfl (by omega) (by omega) (by omega))) ?_
  refine s_valW ev_assign ?_
  refine s_nilW ?_
  refine x_norm ?_
  refine c_blockW ?_
  refine c_loopW (α := Nat) (fun k e w' => k ≤ xs.length ∧ Below w.heap.size w w' ∧ ∃ p i e0, p < xs.length ∧ i = ((k : Nat) : Int) - 1 ∧ (∀ j, k ≤ j → j < p → xs[j]? = ys[j]?) ∧ (xs[p]? ≠ ys[p]? ∨ p + 1 = xs.length) ∧ e = upd (upd (upd (upd e0 0 (.slice p1 xs.length c1)) 1 (.slice p2 ys.length c2)) 5 (.int .i64 (p : Nat))) 6 (.int .i64 i)) (fun k => k) xs.length (by exact ⟨Nat.le_refl _, .refl _ _, xs.length - 1, _, _, by omega, by omega, fun j h h' => by omega, .inr (by omega), sl4 rfl rfl rfl rfl⟩) ?_
  rintro k e w1 ⟨hk, B, p, i, e, hp, hi, hall, hpp, rfl⟩
  refine c_seqW ?_
  refine c_seqW ?_
  refine c_regionW ?_
  refine s_valW ev_move ?_
  refine s_valW (ev_ge rfl rfl) ?_
  refine s_nilW ?_
  refine x_norm ?_
  refine c_ifW rfl (fun hge => ?_) (fun hge => ?_)
  · refine c_skipW ?_
    refine x_norm ?_
    refine c_seqW ?_
    refine c_blockW ?_
    refine c_seqW ?_
    refine b_beginW (by kernel_rfl) (Hold w1) 10 ?_
    have hS : (Hold w1) (World.drew w1) := hold_drew
    refine b_takeW (calm_then (calm_blk (calm_then (calm_then (calm_blk (calm_then calm_body)))))) hS 0 rfl (by kernel_rfl) (fun _ hS => ev_move) ?_
    refine b_takeW (calm_then (calm_blk (calm_then (calm_then (calm_blk (calm_then calm_body)))))) hS 1 rfl (by kernel_rfl) (fun _ hS => ev_move) ?_
    obtain ⟨k, rfl⟩ : ∃ k', k = k' + 1 := ⟨k - 1, by omega⟩
    obtain rfl : i = (k : Nat) := by omega
    obtain ⟨x, hxk⟩ : ∃ x, xs[k]? = some x := ⟨xs[k]'(by omega), by simp⟩
    obtain ⟨y, hyk⟩ : ∃ y, ys[k]? = some y := ⟨ys[k]'(by omega), by simp⟩
    obtain ⟨b, o, rfl, hcx⟩ := (h1.mono (Sl.Below.rd B)).at hxk
    obtain ⟨b2, o2, rfl, hcy⟩ := (h2.mono (Sl.Below.rd B)).at hyk
    refine b_takeW (calm_then (calm_blk (calm_then (calm_then (calm_blk (calm_then calm_body)))))) hS 2 rfl (by kernel_rfl) (fun _ hS => ev_ix rfl rfl Tryz.underlying29 Tryz.szT5 (by omega)) ?_
    refine b_takeW (calm_then (calm_blk (calm_then (calm_then (calm_blk (calm_then calm_body)))))) hS 3 rfl (by kernel_rfl) (fun _ hS => ev_load rfl Tryz.underlying5 rfl (hS.cell hcx)) ?_
    refine b_takeW (calm_then (calm_blk (calm_then (calm_then (calm_blk (calm_then calm_body)))))) hS 4 rfl (by kernel_rfl) (fun _ hS => ev_move) ?_
    refine b_takeW (calm_then (calm_blk (calm_then (calm_then (calm_blk (calm_then calm_body)))))) hS 5 rfl (by kernel_rfl) (fun _ hS => ev_move) ?_
    refine b_takeW (calm_then (calm_blk (calm_then (calm_then (calm_blk (calm_then calm_body)))))) hS 6 rfl (by kernel_rfl) (fun _ hS => ev_ix rfl rfl Tryz.underlying29 Tryz.szT5 (by omega)) ?_
    refine b_takeW (calm_then (calm_blk (calm_then (calm_then (calm_blk (calm_then calm_body)))))) hS 7 rfl (by kernel_rfl) (fun _ hS => ev_load rfl Tryz.underlying5 rfl (hS.cell hcy)) ?_
    refine b_effW 8 rfl (by kernel_rfl) rfl (d_call Tryz.call125 (zByteEq _ _ _)) ?_
    rintro _ _ ⟨rfl, rfl⟩
    have hS : (Hold w1) w1.drew := hS
    refine ⟨hS, ?_⟩
    refine b_takeW (calm_then (calm_blk (calm_then (calm_then (calm_blk (calm_then calm_body)))))) hS 9 rfl (by kernel_rfl) (fun _ hS => ev_assign) ?_
    refine b_doneW (by kernel_rfl) ?_
    refine x_norm ?_
    refine c_regionW ?_
    refine s_valW ev_move ?_
    refine s_valW ev_move ?_
    refine s_valW ev_move ?_
    refine s_effW (d_call Tryz.call126 (zSelect _ _ _ _)) ?_
    rintro _ _ ⟨rfl, rfl⟩
    refine s_valW ev_assign ?_
    refine s_nilW ?_
    refine x_normb ?_
    refine x_norm ?_
    refine c_regionW ?_
    refine s_valW ev_move ?_
    refine s_valW ((ev_subIv (k := (k : Int) - 1) rfl rfl rfl (by omega) (by omega))) ?_
    refine s_valW ev_assign ?_
    refine s_nilW ?_
    refine x_norm ?_
    refine ⟨k, _, rfl, ⟨by omega, B.drew, ?_⟩, by omega⟩
    by_cases hxy : (x : Int) = (y : Int)
    · have he : (if (x : Int) = (y : Int) then (1 : Int) else 0) = 1 := if_pos hxy
      refine ⟨p, _, _, hp, rfl, ?_, hpp, sl4 rfl rfl (by rw [he]; rfl) rfl⟩
      intro j hj hjp
      by_cases hjk : j = k
      · rw [hjk, hxk, hyk]; congr 1; omega
      · exact hall j (by omega) hjp
    · have he : (if (x : Int) = (y : Int) then (1 : Int) else 0) = 0 := if_neg hxy
      refine ⟨k, _, _, by omega, rfl, fun j hj hjk => by omega, .inl ?_, sl4 rfl rfl (by rw [he]; rfl) rfl⟩
      rw [hxk, hyk]
      intro h
      cases h
      exact hxy rfl
  · refine c_exitW ?_
    refine x_exit ?_
    refine x_exit ?_
    refine x_exitb ?_
    refine x_norm ?_
    refine c_seqW ?_
    refine b_beginW (by kernel_rfl) (Hold w1) 13 ?_
    have hS : (Hold w1) (World.drew w1) := hold_drew
    refine b_takeW (calm_then calm_body) hS 0 rfl (by kernel_rfl) (fun _ hS => ev_move) ?_
    refine b_takeW (calm_then calm_body) hS 1 rfl (by kernel_rfl) (fun _ hS => ev_move) ?_
    obtain rfl : k = 0 := by omega
    have hlt2 := ltBE_at hl hx hy hlt hp (fun j hj => hall j (by omega) hj) hpp
    have hxk : xs[p]? = some (xs[p]'hp) := by simp
    have hyk : ys[p]? = some (ys[p]'(by omega)) := by simp
    obtain ⟨b, o, rfl, hcx⟩ := (h1.mono (Sl.Below.rd B)).at hxk
    obtain ⟨b2, o2, rfl, hcy⟩ := (h2.mono (Sl.Below.rd B)).at hyk
    refine b_takeW (calm_then calm_body) hS 2 rfl (by kernel_rfl) (fun _ hS => ev_ix rfl rfl Tryz.underlying29 Tryz.szT5 (by omega)) ?_
    refine b_takeW (calm_then calm_body) hS 3 rfl (by kernel_rfl) (fun _ hS => ev_load rfl Tryz.underlying5 rfl (hS.cell hcy)) ?_
    refine b_takeW (calm_then calm_body) hS 4 rfl (by kernel_rfl) (fun _ hS => ev_convI rfl Tryz.underlying5 Tryz.underlying3 (by have := hy _ (List.mem_of_getElem? hyk); omega)) ?_
    refine b_takeW (calm_then calm_body) hS 5 rfl (by kernel_rfl) (fun _ hS => ev_move) ?_
    refine b_takeW (calm_then calm_body) hS 6 rfl (by kernel_rfl) (fun _ hS => ev_move) ?_
    refine b_takeW (calm_then calm_body) hS 7 rfl (by kernel_rfl) (fun _ hS => ev_ix rfl rfl Tryz.underlying29 Tryz.szT5 (by omega)) ?_
    refine b_takeW (calm_then calm_body) hS 8 rfl (by kernel_rfl) (fun _ hS => ev_load rfl Tryz.underlying5 rfl (hS.cell hcx)) ?_
    refine b_takeW (calm_then calm_body) hS 9 rfl (by kernel_rfl) (fun _ hS => ev_convI rfl Tryz.underlying5 Tryz.underlying3 (by have := hx _ (List.mem_of_getElem? hxk); omega)) ?_
    refine b_effW 10 rfl (by kernel_rfl) rfl (d_call Tryz.call127 (zLessOrEq _ _ _)) ?_
    rintro _ _ ⟨rfl, rfl⟩
    have hle : (if ((ys[p]'(by omega) : Nat) : Int) ≤ ((xs[p]'hp : Nat) : Int) then (1 : Int) else 0) = 0 := if_neg (by omega)
    have hS : (Hold w1) w1.drew := hS
    refine ⟨hS, ?_⟩
    refine b_takeW (calm_then calm_body) hS 11 rfl (by kernel_rfl) (fun _ hS => ev_subIv (k := 1) rfl rfl (by rw [hle]; rfl) (by omega) (by omega)) ?_
    refine b_takeW (calm_then calm_body) hS 12 rfl (by kernel_rfl) (fun _ hS => ev_assign) ?_
    refine b_doneW (by kernel_rfl) ?_
    refine x_norm ?_
    refine c_retW ?_
    exact r_ret rfl rfl ⟨rfl, B.drew⟩
end Go.Proofs.YtgikfcmcgpcckaaGreatDoor
