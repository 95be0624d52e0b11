/-
  THE PLAIN LAW OF 'FnPlainIntegerIsLongestIntegerAt': no Go in sight.
-/
import Derived.Test.Qxb6601322aPlain
namespace Go.Proofs.Qxb6601322a

/-- the bytes s to t (t excluded) are digits, at least one, and no 0 ahead of another -/
def Jb (f : Nat → Int) (s t : Nat) : Prop := s < t ∧ (∀ k, s ≤ k → k < t → dg (f k)) ∧ ¬ (f s = 48 ∧ s + 1 < t)
/-- the bytes i to t are a whole JSON integer -/
def J (f : Nat → Int) (i t : Nat) : Prop := (f i = 45 ∧ Jb f (i + 1) t) ∨ (f i ≠ 45 ∧ Jb f i t)

theorem Jb_shift (f : Nat → Int) (i s t : Nat) : Jb (fun k => f (i + k)) s t ↔ Jb f (i + s) (i + t) := by
  unfold Jb
  constructor
  · rintro ⟨a, b, c⟩
    refine ⟨by omega, fun k h1 h2 => ?_, fun h => c ⟨h.1, by omega⟩⟩
    have : dg (f (i + (k - i))) := b (k - i) (by omega) (by omega)
    rwa [show i + (k - i) = k by omega] at this
  · rintro ⟨a, b, c⟩
    exact ⟨by omega, fun k h1 h2 => b (i + k) (by omega) (by omega), fun h => c ⟨h.1, by omega⟩⟩
theorem J_shift (f : Nat → Int) (i t : Nat) : J (fun k => f (i + k)) 0 t ↔ J f i (i + t) := by
  unfold J
  rw [Jb_shift, Jb_shift]
  exact Iff.rfl

/-- the greatest end below j, or -1 -/
def Lst (f : Nat → Int) (i j : Nat) (r : Int) : Prop :=
  (r = -1 ∧ ∀ t, i < t → t < j → ¬ J f i t) ∨ ∃ t : Nat, r = t ∧ i < t ∧ t < j ∧ J f i t ∧ ∀ u, t < u → u < j → ¬ J f i u

theorem Lst_start (f : Nat → Int) (i : Nat) : Lst f i (i + 1) (-1) := .inl ⟨rfl, fun t h1 h2 => by omega⟩
theorem Lst_hit {f : Nat → Int} {i j : Nat} (hij : i < j) (h : J f i j) : Lst f i (j + 1) j := .inr ⟨j, rfl, hij, by omega, h, fun u h1 h2 => by omega⟩
theorem Lst_miss {f : Nat → Int} {i j : Nat} {r : Int} (hl : Lst f i j r) (h : ¬ J f i j) : Lst f i (j + 1) r := by
  have step : ∀ {u}, u < j + 1 → u < j ∨ u = j := fun h => by omega
  rcases hl with ⟨rfl, a⟩ | ⟨t, rfl, a, b, c, d⟩
  · refine .inl ⟨rfl, fun t h1 h2 => ?_⟩
    rcases step h2 with h3 | rfl
    · exact a t h1 h3
    · exact h
  · refine .inr ⟨t, rfl, a, by omega, c, fun u h1 h2 => ?_⟩
    rcases step h2 with h3 | rfl
    · exact d u h1 h3
    · exact h

theorem Lst_uniq {f : Nat → Int} {i j : Nat} {r s : Int} (h : Lst f i j r) (h' : Lst f i j s) : r = s := by
  rcases h with ⟨rfl, a⟩ | ⟨t, rfl, a, b, c, d⟩ <;> rcases h' with ⟨rfl, a'⟩ | ⟨t', rfl, a', b', c', d'⟩
  · rfl
  · exact absurd c' (a t' a' b')
  · exact absurd c (a' t a b)
  · rcases Nat.lt_trichotomy t t' with h | h | h
    · exact absurd c' (d t' h b')
    · rw [h]
    · exact absurd c (d' t h b)

theorem Lst_of_PIb {f : Nat → Int} {n i s : Nat} {r : Int} (hs : i ≤ s) (hJ : ∀ t, i < t → t < n + 1 → (J f i t ↔ Jb f s t)) (h : PIb f n s r) : Lst f i (n + 1) r := by
  rcases h with ⟨a, rfl⟩ | ⟨a, b, rfl⟩ | ⟨a, b, c, j, d, e, rfl, g, k⟩
  · refine .inl ⟨rfl, fun t h1 h2 hj => ?_⟩
    obtain ⟨x, y, _⟩ := (hJ t h1 h2).1 hj
    exact a ⟨by omega, y s (Nat.le_refl _) x⟩
  · refine .inr ⟨s + 1, by omega, by omega, by omega, (hJ _ (by omega) (by omega)).2 ⟨by omega, fun k h1 h2 => ?_, fun h => by omega⟩, fun u h1 h2 hj => ?_⟩
    · obtain rfl : k = s := by omega
      unfold dg; omega
    · exact ((hJ u (by omega) h2).1 hj).2.2 ⟨b, by omega⟩
  · refine .inr ⟨j, rfl, by omega, by omega, (hJ _ (by omega) (by omega)).2 ⟨d, g, fun h => c h.1⟩, fun u h1 h2 hj => ?_⟩
    exact k ⟨by omega, ((hJ u (by omega) h2).1 hj).2.1 j (by omega) h1⟩

theorem Lst_of_PI {f : Nat → Int} {n i : Nat} {r : Int} (h : PI f n i r) : Lst f i (n + 1) r := by
  rcases h with ⟨a, b, c⟩ | ⟨a, c⟩
  · exact Lst_of_PIb (by omega) (fun t _ _ => ⟨fun h => h.elim (fun h => h.2) (fun h => absurd b h.1), fun h => .inl ⟨b, h⟩⟩) c
  · refine Lst_of_PIb (Nat.le_refl _) (fun t h1 h2 => ?_) c
    have hne : f i ≠ 45 := fun h => a ⟨by omega, h⟩
    exact ⟨fun h => h.elim (fun h => absurd h.1 hne) (fun h => h.2), fun h => .inr ⟨hne, h⟩⟩

theorem PI_is_Lst {f : Nat → Int} {n i : Nat} {r s : Int} (h : PI f n i r) (h' : Lst f i (n + 1) s) : r = s := Lst_uniq (Lst_of_PI h) h'

end Go.Proofs.Qxb6601322a
