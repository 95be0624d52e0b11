/-
  THE PLAIN LAWS OF 'plainInteger', 'zzIsJSONInteger': no Go in sight. The bytes are a function 'f : Nat → Int', their number 'n'.
-/
namespace Go.Proofs.Qxb6601322a

/-- a byte is a decimal digit -/
def dg (x : Int) : Prop := 48 ≤ x ∧ x ≤ 57

/-- What plainInteger answers behind the sign, at i over the n bytes f. -/
def PIb (f : Nat → Int) (n i : Nat) (r : Int) : Prop :=
  (¬ (i < n ∧ dg (f i)) ∧ r = -1) ∨ (i < n ∧ f i = 48 ∧ r = i + 1) ∨
  (i < n ∧ dg (f i) ∧ f i ≠ 48 ∧ ∃ j : Nat, i < j ∧ j ≤ n ∧ r = j ∧ (∀ k, i ≤ k → k < j → dg (f k)) ∧ ¬ (j < n ∧ dg (f j)))

/-- What plainInteger answers. -/
def PI (f : Nat → Int) (n i : Nat) (r : Int) : Prop :=
  (i < n ∧ f i = 45 ∧ PIb f n (i + 1) r) ∨ (¬ (i < n ∧ f i = 45) ∧ PIb f n i r)

theorem PIb_no {f : Nat → Int} {n i : Nat} (h : ¬ (i < n ∧ 48 ≤ f i ∧ f i ≤ 57)) : PIb f n i (-1) := .inl ⟨h, rfl⟩
theorem PIb_zero {f : Nat → Int} {n i : Nat} (h : i < n) (h0 : (f i == 48) = true) : PIb f n i ((i : Int) + 1) := .inr (.inl ⟨h, by simpa using h0, rfl⟩)
theorem PIb_run {f : Nat → Int} {n i j : Nat} (h : i < n) (hd : dg (f i)) (h0 : (f i == 48) = false) (hij : i ≤ j) (hj : j ≤ n) (hall : ∀ k, i ≤ k → k < j → dg (f k))
    (hend : ¬ (j < n ∧ 48 ≤ f j ∧ f j ≤ 57)) : PIb f n i (j : Int) := by
  refine .inr (.inr ⟨h, hd, by simpa using h0, j, ?_, hj, rfl, hall, hend⟩)
  rcases Nat.lt_or_ge i j with h' | h'
  · exact h'
  · exact absurd (show j < n ∧ 48 ≤ f j ∧ f j ≤ 57 by obtain rfl : i = j := by omega
                                                      exact ⟨h, hd⟩) hend
theorem PI_minus {f : Nat → Int} {n i : Nat} {r : Int} (h : i < n) (hm : (f i == 45) = true) (hp : PIb f n (i + 1) r) : PI f n i r := .inl ⟨h, by simpa using hm, hp⟩
theorem PI_plain {f : Nat → Int} {n i : Nat} {r : Int} (hm : (f i == 45) = false) (hp : PIb f n i r) : PI f n i r := .inr ⟨fun h => by simp [h.2] at hm, hp⟩
theorem PI_end {f : Nat → Int} {n i : Nat} (h : ¬ i < n) : PI f n i (-1) := .inr ⟨fun h' => h h'.1, .inl ⟨fun h' => h h'.1, rfl⟩⟩
theorem dg_succ {f : Nat → Int} {i j : Nat} (hall : ∀ k, i ≤ k → k < j → dg (f k)) (h1 : 48 ≤ f j) (h2 : f j ≤ 57) : ∀ k, i ≤ k → k < j + 1 → dg (f k) := by
  intro k hk hk'
  rcases Nat.lt_or_ge k j with h | h
  · exact hall k hk h
  · obtain rfl : k = j := by omega
    exact ⟨h1, h2⟩

/-- The answer is one. -/
theorem PIb_uniq {f : Nat → Int} {n i : Nat} {r s : Int} (h : PIb f n i r) (h' : PIb f n i s) : r = s := by
  rcases h with ⟨a, rfl⟩ | ⟨a, b, rfl⟩ | ⟨a, b, c, j, d, e, rfl, g, k⟩ <;> rcases h' with ⟨a', rfl⟩ | ⟨a', b', rfl⟩ | ⟨a', b', c', j', d', e', rfl, g', k'⟩
  · rfl
  · exact absurd ⟨a', by unfold dg; omega⟩ a
  · exact absurd ⟨a', b'⟩ a
  · exact absurd ⟨a, by unfold dg; omega⟩ a'
  · rfl
  · exact absurd b c'
  · exact absurd ⟨a, b⟩ a'
  · exact absurd b' c
  · rcases Nat.lt_trichotomy j j' with h | h | h
    · exact absurd ⟨by omega, g' j (by omega) h⟩ k
    · rw [h]
    · exact absurd ⟨by omega, g j' (by omega) h⟩ k'

theorem PI_uniq {f : Nat → Int} {n i : Nat} {r s : Int} (h : PI f n i r) (h' : PI f n i s) : r = s := by
  rcases h with ⟨a, b, c⟩ | ⟨a, c⟩ <;> rcases h' with ⟨a', b', c'⟩ | ⟨a', c'⟩
  · exact PIb_uniq c c'
  · exact absurd ⟨a, b⟩ a'
  · exact absurd ⟨a', b'⟩ a
  · exact PIb_uniq c c'

/-- The shift: p bytes put in front. -/
theorem PIb_shift {f g : Nat → Int} {n p i : Nat} {r : Int} (hg : ∀ k, k < n → g (p + k) = f k) (h : PIb f n i r) : PIb g (p + n) (p + i) (if r = -1 then -1 else r + p) := by
  rcases h with ⟨a, rfl⟩ | ⟨a, b, rfl⟩ | ⟨a, b, c, j, d, e, rfl, k, l⟩
  · refine .inl ⟨fun h' => a ⟨by omega, ?_⟩, by simp⟩
    rw [← hg i (by omega)]; exact h'.2
  · rw [if_neg (by omega)]
    exact .inr (.inl ⟨by omega, by rw [hg i a]; exact b, by omega⟩)
  · rw [if_neg (by omega)]
    refine .inr (.inr ⟨by omega, by rw [hg i a]; exact b, by rw [hg i a]; exact c, p + j, by omega, by omega, by omega, ?_, ?_⟩)
    · intro m h1 h2
      have := k (m - p) (by omega) (by omega)
      rw [← hg (m - p) (by omega)] at this
      rwa [show p + (m - p) = m by omega] at this
    · intro h'
      exact l ⟨by omega, by rw [← hg j (by omega)]; exact h'.2⟩

theorem PI_shift {f g : Nat → Int} {n p i : Nat} {r : Int} (hg : ∀ k, k < n → g (p + k) = f k) (h : PI f n i r) : PI g (p + n) (p + i) (if r = -1 then -1 else r + p) := by
  rcases h with ⟨a, b, c⟩ | ⟨a, c⟩
  · exact .inl ⟨by omega, by rw [hg i a]; exact b, PIb_shift hg c⟩
  · refine .inr ⟨fun h' => a ⟨by omega, ?_⟩, PIb_shift hg c⟩
    rw [← hg i (by omega)]; exact h'.2

theorem PI_bd {f : Nat → Int} {n i : Nat} {r : Int} (h : PI f n i r) : -1 ≤ r ∧ r ≤ n := by
  rcases h with ⟨a, b, c⟩ | ⟨a, c⟩ <;> rcases c with ⟨_, rfl⟩ | ⟨_, _, rfl⟩ | ⟨_, _, _, j, _, _, rfl, _⟩ <;> constructor <;> omega

end Go.Proofs.Qxb6601322a
