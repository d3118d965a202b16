/-
  Plain arithmetic for LawS3644ARoundTrip: decimal digits, no Go in sight.
-/
namespace Go.Proofs.Ybulkbwle

/-- The number that a list of ASCII digits, the greatest first, spells. -/
def val (xs : List Int) : Int := xs.foldl (fun n c => n * 10 + (c - 48)) 0
/-- The number that a list of ASCII digits, the least first, spells. -/
def vr : List Int → Int
  | [] => 0
  | c :: cs => (c - 48) + 10 * vr cs

theorem val_snoc (xs : List Int) (c : Int) : val (xs ++ [c]) = val xs * 10 + (c - 48) := by
  simp [val, List.foldl_append]

theorem vr_snoc (xs : List Int) (c : Int) : vr (xs ++ [c]) = vr xs + 10 ^ xs.length * (c - 48) := by
  induction xs with
  | nil => simp [vr]
  | cons x xs ih =>
    simp only [List.cons_append, vr, ih, List.length_cons, Int.pow_succ]
    rw [Int.mul_add, Int.mul_comm (10 ^ xs.length) 10, Int.mul_assoc]
    omega

theorem val_reverse (xs : List Int) : val xs.reverse = vr xs := by
  induction xs with
  | nil => rfl
  | cons x xs ih => rw [List.reverse_cons, val_snoc, ih, vr]; omega

theorem foldl_zeros (k : Nat) : (List.replicate k (48 : Int)).foldl (fun n c => n * 10 + (c - 48)) 0 = 0 := by
  induction k with
  | zero => rfl
  | succ k ih => rw [List.replicate_succ, List.foldl_cons]; simpa using ih

theorem val_padded (k : Nat) (xs : List Int) : val (List.replicate k 48 ++ xs.reverse) = vr xs := by
  unfold val
  rw [List.foldl_append, foldl_zeros]
  exact val_reverse xs

def Digs (xs : List Int) : Prop := ∀ c ∈ xs, 48 ≤ c ∧ c ≤ 57

theorem val_take_succ (xs : List Int) (k : Nat) (h : k < xs.length) : val (xs.take (k + 1)) = val (xs.take k) * 10 + (xs[k]?.getD 0 - 48) := by
  rw [List.take_add_one, List.getElem?_eq_getElem h]
  exact val_snoc _ _

theorem val_nonneg (xs : List Int) (h : Digs xs) (k : Nat) : 0 ≤ val (xs.take k) := by
  induction k with
  | zero => simp [val]
  | succ k ih =>
    by_cases hk : k < xs.length
    · rw [val_take_succ xs k hk, List.getElem?_eq_getElem hk]
      have := h xs[k] (List.getElem_mem hk)
      simp only [Option.getD_some]
      omega
    · rw [List.take_of_length_le (by omega)]
      rw [List.take_of_length_le (by omega)] at ih
      exact ih

theorem val_mono_step (xs : List Int) (h : Digs xs) (k : Nat) : val (xs.take k) ≤ val (xs.take (k + 1)) := by
  have h0 := val_nonneg xs h k
  by_cases hk : k < xs.length
  · rw [val_take_succ xs k hk, List.getElem?_eq_getElem hk]
    have := h xs[k] (List.getElem_mem hk)
    simp only [Option.getD_some]
    omega
  · rw [List.take_of_length_le (by omega), List.take_of_length_le (by omega)]
    exact Int.le_refl _

theorem val_mono (xs : List Int) (h : Digs xs) (k d : Nat) : val (xs.take k) ≤ val (xs.take (k + d)) := by
  induction d with
  | zero => exact Int.le_refl _
  | succ d ih => exact Int.le_trans ih (val_mono_step xs h (k + d))

theorem val_le (xs : List Int) (h : Digs xs) (k : Nat) : val (xs.take k) ≤ val xs := by
  have := val_mono xs h k xs.length
  rwa [List.take_of_length_le (show xs.length ≤ k + xs.length by omega)] at this

/-- The digits read so far, one more digit. -/
theorem vr_step (n m : Int) (rv : List Int) (h : vr rv + 10 ^ rv.length * m = n) : vr (rv ++ [48 + m % 10]) + 10 ^ (rv ++ [48 + m % 10]).length * (m / 10) = n := by
  rw [vr_snoc, List.length_append, List.length_singleton, Int.pow_succ, Int.mul_assoc, Int.add_assoc, ← Int.mul_add]
  have e : 48 + m % 10 - 48 + 10 * (m / 10) = m := by omega
  rw [e]
  exact h

theorem vr_nonneg (rv : List Int) (h : Digs rv) : 0 ≤ vr rv := by
  induction rv with
  | nil => exact Int.le_refl _
  | cons c cs ih =>
    have h1 := h c (by simp)
    have h2 := ih (fun x hx => h x (by simp [hx]))
    simp only [vr]
    omega

/-- Few digits. -/
theorem few (n m : Int) (rv : List Int) (h : vr rv + 10 ^ rv.length * m = n) (hd : Digs rv) (hm : 0 < m) (hn : n < 9223372036854775808) : rv.length < 20 := by
  have h0 := vr_nonneg rv hd
  rcases Nat.lt_or_ge rv.length 20 with h1 | h1
  · exact h1
  · exfalso
    have hp : (10 : Int) ^ 20 ≤ 10 ^ rv.length := by
      have : (10 : Nat) ^ 20 ≤ 10 ^ rv.length := Nat.pow_le_pow_right (by omega) h1
      exact_mod_cast this
    have hp' : (100000000000000000000 : Int) ≤ 10 ^ rv.length := hp
    have hq : (10 : Int) ^ rv.length ≤ 10 ^ rv.length * m := by
      have h2 : (10 : Int) ^ rv.length * 1 ≤ 10 ^ rv.length * m := Int.mul_le_mul_of_nonneg_left (by omega) (by omega)
      rwa [Int.mul_one] at h2
    omega

theorem digs_snoc (rv : List Int) (m : Int) (h : Digs rv) : Digs (rv ++ [48 + m % 10]) := by
  intro c hc
  rw [List.mem_append, List.mem_singleton] at hc
  rcases hc with hc | rfl
  · exact h c hc
  · omega

theorem digs_padded (k : Nat) (rv : List Int) (h : Digs rv) : Digs (List.replicate k 48 ++ rv.reverse) := by
  intro c hc
  rw [List.mem_append] at hc
  rcases hc with hc | hc
  · have := List.eq_of_mem_replicate hc; omega
  · exact h c (List.mem_reverse.1 hc)

end Go.Proofs.Ybulkbwle
