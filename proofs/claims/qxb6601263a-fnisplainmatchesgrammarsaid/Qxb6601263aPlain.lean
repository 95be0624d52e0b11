/-
  THE PLAIN LAWS OF 'isPlain' AND 'zzPlainGrammar': no Go in sight. The bytes are a function g : Nat → Int, their number n.
-/
namespace Go.Proofs.Qxb6601263a

/-- a byte is a decimal digit -/
def dg (x : Int) : Prop := 48 ≤ x ∧ x ≤ 57
/-- digit+ [ '.' digit+ ] -/
def Pl (g : Nat → Int) (n : Nat) : Prop :=
  (0 < n ∧ ∀ k, k < n → dg (g k)) ∨ ∃ p, 0 < p ∧ p + 1 < n ∧ g p = 46 ∧ (∀ k, k < p → dg (g k)) ∧ ∀ k, p < k → k < n → dg (g k)

theorem not_dg : ¬ dg 46 := by unfold dg; omega

/-- the state of the scan at i: how many digits stand behind the last point, whether there is one -/
def St (g : Nat → Int) (i d : Nat) (pt : Bool) : Prop :=
  (pt = false ∧ d = i ∧ ∀ k, k < i → dg (g k)) ∨
  (pt = true ∧ ∃ p, 0 < p ∧ p + 1 + d = i ∧ g p = 46 ∧ (∀ k, k < p → dg (g k)) ∧ ∀ k, p < k → k < i → dg (g k))

theorem St_start (g : Nat → Int) : St g 0 0 false := .inl ⟨rfl, rfl, fun k h => by omega⟩
theorem St_digit {g : Nat → Int} {i d : Nat} {pt : Bool} (h : St g i d pt) (hd : dg (g i)) : St g (i + 1) (d + 1) pt := by
  have step : ∀ {k}, k < i + 1 → k < i ∨ k = i := fun h => by omega
  rcases h with ⟨rfl, rfl, a⟩ | ⟨rfl, p, a, b, c, e, f⟩
  · refine .inl ⟨rfl, rfl, fun k hk => ?_⟩
    rcases step hk with h | rfl
    · exact a k h
    · exact hd
  · refine .inr ⟨rfl, p, a, by omega, c, e, fun k h1 h2 => ?_⟩
    rcases step h2 with h | rfl
    · exact f k h1 h
    · exact hd
theorem St_point {g : Nat → Int} {i d : Nat} (h : St g i d false) (hd : 0 < d) (hp : g i = 46) : St g (i + 1) 0 true := by
  rcases h with ⟨_, rfl, a⟩ | ⟨h, _⟩
  · exact .inr ⟨rfl, d, hd, by omega, hp, a, fun k h1 h2 => by omega⟩
  · cases h
theorem St_end {g : Nat → Int} {n d : Nat} {pt : Bool} (h : St g n d pt) : 0 < d ↔ Pl g n := by
  rcases h with ⟨rfl, rfl, a⟩ | ⟨rfl, p, a, b, c, e, f⟩
  · constructor
    · exact fun h => .inl ⟨h, a⟩
    · rintro (⟨h, _⟩ | ⟨p, h, h', _⟩) <;> omega
  · constructor
    · exact fun h => .inr ⟨p, a, by omega, c, e, f⟩
    · rintro (⟨_, h⟩ | ⟨q, h1, h2, h3, h4, h5⟩)
      · exact absurd (h p (by omega)) (by rw [c]; exact not_dg)
      · rcases Nat.lt_trichotomy p q with h | h | h
        · exact absurd (h4 p h) (by rw [c]; exact not_dg)
        · omega
        · exact absurd (h5 p h (by omega)) (by rw [c]; exact not_dg)
/-- what is neither a digit nor a point -/
theorem St_bad {g : Nat → Int} {i n : Nat} (hi : i < n) (hd : ¬ dg (g i)) (hp : g i ≠ 46) : ¬ Pl g n := by
  rintro (⟨_, h⟩ | ⟨q, h1, h2, h3, h4, h5⟩)
  · exact hd (h i hi)
  · rcases Nat.lt_trichotomy i q with h | h | h
    · exact hd (h4 i h)
    · exact hp (h ▸ h3)
    · exact hd (h5 i h hi)
/-- a point behind nothing, or a second one -/
theorem St_dot {g : Nat → Int} {i n d : Nat} {pt : Bool} (h : St g i d pt) (hi : i < n) (hp : g i = 46) (hno : pt = true ∨ d = 0) : ¬ Pl g n := by
  have hd : ¬ dg (g i) := by rw [hp]; exact not_dg
  rintro (⟨_, h'⟩ | ⟨q, h1, h2, h3, h4, h5⟩)
  · exact hd (h' i hi)
  · obtain rfl : i = q := by
      rcases Nat.lt_trichotomy i q with h | h | h
      · exact absurd (h4 i h) hd
      · exact h
      · exact absurd (h5 i h hi) hd
    rcases h with ⟨rfl, rfl, a⟩ | ⟨rfl, p, a, b, c, e, f⟩
    · rcases hno with h | h
      · cases h
      · omega
    · exact absurd (h4 p (by omega)) (by rw [c]; exact not_dg)

/-- the grammar, by the first point -/
theorem Pl_nodot {g : Nat → Int} {n : Nat} (h : ∀ k, k < n → g k ≠ 46) : Pl g n ↔ (0 < n ∧ ∀ k, k < n → dg (g k)) := by
  constructor
  · rintro (h' | ⟨q, h1, h2, h3, _⟩)
    · exact h'
    · exact absurd h3 (h q (by omega))
  · exact .inl
theorem Pl_dot {g : Nat → Int} {n p : Nat} (hp : p < n) (he : g p = 46) : Pl g n ↔ (0 < p ∧ p + 1 < n ∧ (∀ k, k < p → dg (g k)) ∧ ∀ k, k < n - (p + 1) → dg (g (p + 1 + k))) := by
  have hd : ¬ dg (g p) := by rw [he]; exact not_dg
  constructor
  · rintro (⟨_, h⟩ | ⟨q, h1, h2, h3, h4, h5⟩)
    · exact absurd (h p hp) hd
    · obtain rfl : p = q := by
        rcases Nat.lt_trichotomy p q with h | h | h
        · exact absurd (h4 p h) hd
        · exact h
        · exact absurd (h5 p h hp) hd
      exact ⟨h1, h2, h4, fun k hk => h5 _ (by omega) (by omega)⟩
  · rintro ⟨h1, h2, h3, h4⟩
    refine .inr ⟨p, h1, h2, he, h3, fun k h5 h6 => ?_⟩
    have := h4 (k - (p + 1)) (by omega)
    rwa [show p + 1 + (k - (p + 1)) = k by omega] at this

/-- the k-th byte of a string, 0 beyond its end -/
def bt (s : ByteArray) (k : Nat) : Int := if h : k < s.size then ((s[k]'h).toNat : Int) else 0
theorem bt_at {s : ByteArray} {k : Nat} (h : k < s.size) : ((s[k]'h).toNat : Int) = bt s k := by unfold bt; rw [dif_pos h]
end Go.Proofs.Qxb6601263a
