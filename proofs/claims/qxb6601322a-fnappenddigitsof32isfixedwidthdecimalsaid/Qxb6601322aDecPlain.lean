/-
  THE PLAIN LAWS OF A NUMBER WRITTEN IN d DECIMAL DIGITS: no Go in sight.
-/
namespace Go.Proofs.Qxb6601322a

/-- the number that the first k of the d digits of N make -/
def hd (N d k : Nat) : Nat := N / 10 ^ (d - k)
/-- the byte at k of N in d decimal digits -/
def dec (N d k : Nat) : Int := 48 + ((hd N d (k + 1) % 10 : Nat) : Int)

theorem hd_all (N d : Nat) : hd N d d = N := by simp [hd]
theorem hd_none {N d : Nat} (h : N < 10 ^ d) : hd N d 0 = 0 := by simp [hd, Nat.div_eq_of_lt h]
theorem hd_step {N d k : Nat} (h : k < d) : hd N d k = hd N d (k + 1) / 10 := by
  unfold hd
  rw [Nat.div_div_eq_div_mul, show d - k = (d - (k + 1)) + 1 by omega, Nat.pow_succ]
theorem hd_le (N d k : Nat) : hd N d k ≤ N := Nat.div_le_self _ _
theorem hd_lt {N d m : Nat} (h : N < 10 ^ d) (hm : m ≤ d) : hd N d m < 10 ^ m := by
  unfold hd
  rw [Nat.div_lt_iff_lt_mul (Nat.pow_pos (by omega)), ← Nat.pow_add, show m + (d - m) = d by omega]
  exact h
theorem hd_one {N d m : Nat} (h : N < 10 ^ d) (hm : m ≤ d) (hp : 0 < hd N d m) : 1 ≤ m := by
  have := hd_lt h hm
  cases m with
  | zero => simp at this; omega
  | succ m => omega
theorem hd_two {N d m : Nat} (h : N < 10 ^ d) (hm : m ≤ d) (hp : 10 ≤ hd N d m) : 2 ≤ m := by
  have := hd_lt h hm
  match m, this with
  | 0, this => simp at this; omega
  | 1, this => simp at this; omega
  | m + 2, _ => omega
theorem hd_zero {N d m k : Nat} (hm : m ≤ d) (hz : hd N d m = 0) (hk : k ≤ m) : hd N d k = 0 := by
  induction m with
  | zero => obtain rfl : k = 0 := by omega
            exact hz
  | succ m ih =>
    rcases Nat.lt_or_ge k (m + 1) with h | h
    · exact ih (by omega) (by rw [hd_step (by omega), hz]) (by omega)
    · obtain rfl : k = m + 1 := by omega
      exact hz
theorem dec_rng (N d k : Nat) : 48 ≤ dec N d k ∧ dec N d k ≤ 57 := by unfold dec; omega
theorem hd_next {N d k : Nat} (h : k < d) : (hd N d (k + 1) : Int) = hd N d k * 10 + (dec N d k - 48) := by
  have := hd_step (N := N) h
  unfold dec
  omega
theorem dec_zero {N d k : Nat} (h : hd N d (k + 1) = 0) : dec N d k = 48 := by unfold dec; omega

/-- two numbers whose first k digits agree -/
theorem hd_agree {N M d k : Nat} (hN : N < 10 ^ d) (hM : M < 10 ^ d) (hk : k ≤ d) (h : ∀ t, t < k → dec N d t = dec M d t) : hd N d k = hd M d k := by
  induction k with
  | zero => rw [hd_none hN, hd_none hM]
  | succ k ih =>
    have h1 := ih (by omega) (fun t ht => h t (by omega))
    have h2 := h k (by omega)
    have h3 := hd_next (N := N) (show k < d by omega)
    have h4 := hd_next (N := M) (show k < d by omega)
    omega
theorem lt_of_hd {N M d k : Nat} (h : hd N d k < hd M d k) : N < M := by
  rcases Nat.lt_or_ge N M with h' | h'
  · exact h'
  · have : hd M d k ≤ hd N d k := Nat.div_le_div_right h'
    omega
theorem dec_lt {N M d k : Nat} (hN : N < 10 ^ d) (hM : M < 10 ^ d) (hk : k < d) (h : ∀ t, t < k → dec N d t = dec M d t) (hlt : dec N d k < dec M d k) : N < M := by
  have h1 := hd_agree hN hM (by omega) h
  have h3 := hd_next (N := N) hk
  have h4 := hd_next (N := M) hk
  exact lt_of_hd (d := d) (k := k + 1) (by omega)
theorem dec_eq {N M d : Nat} (hN : N < 10 ^ d) (hM : M < 10 ^ d) (h : ∀ t, t < d → dec N d t = dec M d t) : N = M := by
  have := hd_agree hN hM (Nat.le_refl _) h
  rwa [hd_all, hd_all] at this

/-- the row while it is written from the right: 48 below m, the digits from m on -/
def part (N d m : Nat) : Nat → Int := fun k => if k < m then 48 else dec N d k
theorem part_start {N d k : Nat} (h : k < d) : part N d d k = 48 := by unfold part; rw [if_pos h]
theorem part_done {N d m k : Nat} (hm : m ≤ d) (hz : hd N d m = 0) : part N d m k = dec N d k := by
  unfold part
  by_cases h : k < m
  · rw [if_pos h, dec_zero (hd_zero hm hz (by omega))]
  · rw [if_neg h]
theorem part_last {N d m k : Nat} (hm : m + 1 ≤ d) (hz : hd N d (m + 1) < 10) : part N d m k = dec N d k := by
  apply part_done (by omega)
  rw [hd_step (by omega)]; omega
/-- the tens and the ones of the last two digits -/
theorem dec_tens {N d m : Nat} (hm : m + 2 ≤ d) : dec N d m = 48 + (((hd N d (m + 2) % 100) / 10 : Nat) : Int) := by
  have := hd_step (N := N) (show m + 1 < d by omega)
  rw [show m + 1 + 1 = m + 2 by omega] at this
  unfold dec; omega
theorem dec_ones {N d m : Nat} : dec N d (m + 1) = 48 + (((hd N d (m + 2) % 100) % 10 : Nat) : Int) := by
  unfold dec
  rw [show m + 1 + 1 = m + 2 by omega]
  omega
theorem hd_hundred {N d m : Nat} (hm : m + 2 ≤ d) : hd N d m = hd N d (m + 2) / 100 := by
  have h1 := hd_step (N := N) (show m + 1 < d by omega)
  have h2 := hd_step (N := N) (show m < d by omega)
  rw [show m + 1 + 1 = m + 2 by omega] at h1
  omega

end Go.Proofs.Qxb6601322a
