/- Numbers written in base 256 and in words. A part of the proofs of FnExactDegree and FnExactCoefficient. -/
namespace Go.Proofs.YtgikfcmcgpcckaaGreatDoor.Sl

/-- Bytes, the lowest first. -/
def LE : List Nat → Nat
  | [] => 0
  | b :: bs => b + 256 * LE bs
/-- Bytes, the highest first. -/
def BE : List Nat → Nat
  | [] => 0
  | b :: bs => b * 256 ^ bs.length + BE bs
/-- Words of 64 bits, the lowest first. -/
def val : List Nat → Nat
  | [] => 0
  | x :: xs => x + 18446744073709551616 * val xs

theorem LE_append (l m : List Nat) : LE (l ++ m) = LE l + 256 ^ l.length * LE m := by
  induction l with
  | nil => simp [LE]
  | cons b l ih => simp only [List.cons_append, LE, ih, List.length_cons, Nat.pow_succ, Nat.mul_add]; rw [Nat.mul_comm (256 ^ l.length) 256, Nat.mul_assoc]; omega

theorem LE_reverse (l : List Nat) : LE l.reverse = BE l := by
  induction l with
  | nil => rfl
  | cons b l ih => rw [List.reverse_cons, LE_append, ih]; simp [LE, BE, Nat.mul_comm, Nat.add_comm]

theorem LE_lt (l : List Nat) (h : ∀ b ∈ l, b < 256) : LE l < 256 ^ l.length := by
  induction l with
  | nil => simp [LE]
  | cons b l ih =>
    have h1 := ih fun x hx => h x (by simp [hx])
    have h2 := h b (by simp)
    simp only [LE, List.length_cons, Nat.pow_succ]
    omega

theorem LE_take (l : List Nat) (i : Nat) (h : i < l.length) : LE (l.take (i + 1)) = LE (l.take i) + l[i] * 256 ^ i := by
  rw [List.take_succ_eq_append_getElem h, LE_append]
  have : (l.take i).length = i := by simp; omega
  rw [this]; simp [LE, Nat.mul_comm]

theorem LE_take_lt (l : List Nat) (h : ∀ b ∈ l, b < 256) (i : Nat) (hi : i ≤ l.length) : LE (l.take i) < 256 ^ i := by
  have := LE_lt (l.take i) fun b hb => h b (List.mem_of_mem_take hb)
  rwa [List.length_take, Nat.min_eq_left hi] at this

theorem val_append (l m : List Nat) : val (l ++ m) = val l + 18446744073709551616 ^ l.length * val m := by
  induction l with
  | nil => simp [val]
  | cons b l ih => simp only [List.cons_append, val, ih, List.length_cons, Nat.pow_succ, Nat.mul_add]; rw [Nat.mul_comm (18446744073709551616 ^ l.length) 18446744073709551616, Nat.mul_assoc]; omega

theorem val_lt (l : List Nat) (h : ∀ b ∈ l, b < 18446744073709551616) : val l < 18446744073709551616 ^ l.length := by
  induction l with
  | nil => simp [val]
  | cons b l ih =>
    have h1 := ih fun x hx => h x (by simp [hx])
    have h2 := h b (by simp)
    simp only [val, List.length_cons, Nat.pow_succ]
    omega

theorem split_at (l : List Nat) (i : Nat) (h : i < l.length) : l = l.take i ++ l[i] :: l.drop (i + 1) := by
  rw [← List.drop_eq_getElem_cons h, List.take_append_drop]

theorem val_at (l : List Nat) (i : Nat) (h : i < l.length) : val l = val (l.take i) + 18446744073709551616 ^ i * (l[i] + 18446744073709551616 * val (l.drop (i + 1))) := by
  conv => lhs; rw [split_at l i h]
  rw [val_append]
  have : (l.take i).length = i := by simp; omega
  rw [this]; rfl

theorem val_set (l : List Nat) (i : Nat) (h : i < l.length) (y : Nat) : val (l.set i (l[i] + y)) = val l + y * 18446744073709551616 ^ i := by
  have hl : i < (l.set i (l[i] + y)).length := by simpa using h
  rw [val_at _ i hl, val_at l i h]
  have e1 : (l.set i (l[i] + y)).take i = l.take i := by rw [List.take_set_of_le (Nat.le_refl _)]
  have e2 : (l.set i (l[i] + y)).drop (i + 1) = l.drop (i + 1) := by rw [List.drop_set_of_lt (by omega)]
  have e3 : (l.set i (l[i] + y))[i] = l[i] + y := by simp
  rw [e1, e2, e3]
  have : l[i] + y + 18446744073709551616 * val (l.drop (i + 1)) = (l[i] + 18446744073709551616 * val (l.drop (i + 1))) + y := by omega
  rw [this, Nat.mul_add (18446744073709551616 ^ i) _ y, Nat.mul_comm y]
  omega

/-- The word at i is small where the number is. -/
theorem word_lt (l : List Nat) (i s : Nat) (h : i < l.length) (hv : val l < 18446744073709551616 ^ i * s) : l[i] < s := by
  rw [val_at l i h] at hv
  have h1 : 18446744073709551616 ^ i * l[i] < 18446744073709551616 ^ i * s := by
    have : 18446744073709551616 ^ i * l[i] ≤ 18446744073709551616 ^ i * (l[i] + 18446744073709551616 * val (l.drop (i + 1))) := Nat.mul_le_mul_left _ (by omega)
    omega
  exact Nat.lt_of_mul_lt_mul_left h1

/-- Numbers by their words: the highest that part decide. -/
theorem val_lt_of (a b : List Nat) (hl : a.length = b.length) (ha : ∀ x ∈ a, x < 18446744073709551616) (i : Nat) (hi : i < a.length) (heq : ∀ j, i < j → j < a.length → a[j]? = b[j]?) (hlt : a[i] < b[i]'(by omega)) : val a < val b := by
  have hib : i < b.length := by omega
  rw [val_at a i hi, val_at b i hib]
  have e1 : a.drop (i + 1) = b.drop (i + 1) := by
    apply List.ext_getElem?
    intro j
    rw [List.getElem?_drop, List.getElem?_drop]
    by_cases h : i + 1 + j < a.length
    · exact heq _ (by omega) h
    · rw [List.getElem?_eq_none (by omega), List.getElem?_eq_none (by omega)]
  rw [e1]
  have h1 : val (a.take i) < 18446744073709551616 ^ i := by
    have := val_lt (a.take i) fun x hx => ha x (List.mem_of_mem_take hx)
    rwa [List.length_take, Nat.min_eq_left (by omega)] at this
  have h2 : 18446744073709551616 ^ i * (a[i] + 18446744073709551616 * val (b.drop (i + 1)) + 1) ≤ 18446744073709551616 ^ i * (b[i] + 18446744073709551616 * val (b.drop (i + 1))) := Nat.mul_le_mul_left _ (by omega)
  rw [Nat.mul_add _ _ 1] at h2
  omega

theorem BE_append (p s : List Nat) : BE (p ++ s) = BE p * 256 ^ s.length + BE s := by
  induction p with
  | nil => simp [BE]
  | cons b p ih => simp only [List.cons_append, BE, ih, List.length_append, Nat.pow_add, Nat.add_mul, Nat.mul_assoc]; omega

theorem BE_lt (l : List Nat) (h : ∀ b ∈ l, b < 256) : BE l < 256 ^ l.length := by
  rw [← LE_reverse]
  have := LE_lt l.reverse (by simpa using h)
  simpa using this

/-- Bytes of one length: the first that part decide. -/
theorem BE_lt_of (x y : List Nat) (hl : x.length = y.length) (hx : ∀ b ∈ x, b < 256) (j : Nat) (hj : j < x.length) (heq : ∀ k, k < j → x[k]? = y[k]?) (hlt : x[j] < y[j]'(by omega)) : BE x < BE y := by
  have hjy : j < y.length := by omega
  rw [split_at x j hj, split_at y j hjy, BE_append, BE_append]
  have e1 : x.take j = y.take j := by
    apply List.ext_getElem?
    intro k
    by_cases h : k < j
    · rw [List.getElem?_take, List.getElem?_take, if_pos h, if_pos h]; exact heq k h
    · rw [List.getElem?_take, List.getElem?_take, if_neg h, if_neg h]
  have e2 : (x[j] :: x.drop (j + 1)).length = (y[j] :: y.drop (j + 1)).length := by simp [hl]
  have e3 : (x.drop (j + 1)).length = (y.drop (j + 1)).length := by simp [hl]
  rw [e1, e2]
  simp only [BE, e3]
  have h1 := BE_lt (x.drop (j + 1)) fun b hb => hx b (List.mem_of_mem_drop hb)
  rw [e3] at h1
  have h2 : (x[j] + 1) * 256 ^ (y.drop (j + 1)).length ≤ y[j] * 256 ^ (y.drop (j + 1)).length := Nat.mul_le_mul_right _ (by omega)
  rw [Nat.add_mul, Nat.one_mul] at h2
  omega

def zeroB (bs : List Nat) : Bool := bs.all fun x => decide (x = 0)
/-- The last place of a row that is not all 0, i the first one's number. -/
def degGo : List (List Nat) → Nat → Int → Int
  | [], _, d => d
  | r :: rs, i, d => degGo rs (i + 1) (if zeroB r then d else i)
theorem degGo_append (l m : List (List Nat)) : ∀ (i : Nat) (d : Int), degGo (l ++ m) i d = degGo m (i + l.length) (degGo l i d) := by
  induction l with
  | nil => intro i d; rfl
  | cons r l ih => intro i d; simp only [List.cons_append, degGo, ih, List.length_cons]; rw [Nat.add_assoc, Nat.add_comm 1]
theorem degGo_take (rows : List (List Nat)) (i : Nat) (h : i < rows.length) : degGo (rows.take (i + 1)) 0 (-1) = if zeroB rows[i] then degGo (rows.take i) 0 (-1) else i := by
  rw [List.take_succ_eq_append_getElem h, degGo_append]
  have : (rows.take i).length = i := by simp; omega
  simp [degGo, this]
end Go.Proofs.YtgikfcmcgpcckaaGreatDoor.Sl
