/-
  THE CONTRACT OF 'zzIsJSONInteger' (function 12), at a slice of at least one byte.
-/
import Derived.Test.Qxb6601322aLongPlain
import Derived.Test.Qxb6601322aCopy
namespace Go.Proofs.Qxb6601322a
open Go.ChangeShapes Go.WideShapes Go.ChangeAt Go.RowKit

theorem Jb_bad {f : Nat → Int} {s t k : Nat} (h1 : s ≤ k) (h2 : k < t) (h : ¬ (48 ≤ f k ∧ f k ≤ 57)) : ¬ Jb f s t := fun h' => h (h'.2.1 k h1 h2)
theorem J_minus {f : Nat → Int} {t : Nat} (h : (f 0 == 45) = true) : J f 0 t ↔ Jb f 1 t := by
  have h' : f 0 = 45 := by simpa using h
  exact ⟨fun j => j.elim (fun j => j.2) (fun j => absurd h' j.1), fun j => .inl ⟨h', j⟩⟩
theorem J_plain {f : Nat → Int} {t : Nat} (h : (f 0 == 45) = false) : J f 0 t ↔ Jb f 0 t := by
  have h' : f 0 ≠ 45 := by simpa using h
  exact ⟨fun j => j.elim (fun j => absurd j.1 h') (fun j => j.2), fun j => .inr ⟨h', j⟩⟩

/-- What the call leaves: its answer says whether the m bytes are a whole JSON integer; the world stands. -/
def JsonPost (f : Nat → Int) (m : Nat) (w : World) (e : Ending) (w' : World) : Prop := ∃ v : Bool, e = .returned (.bool v) ∧ (v = true ↔ J f 0 m) ∧ w = w'
theorem jp_false {f : Nat → Int} {m : Nat} {w : World} (h : ¬ J f 0 m) : JsonPost f m w (.returned (.bool false)) w := ⟨false, rfl, ⟨fun e => absurd e (by simp), fun h' => absurd h' h⟩, rfl⟩
theorem jp_true {f : Nat → Int} {m : Nat} {w : World} (h : J f 0 m) : JsonPost f m w (.returned (.bool true)) w := ⟨true, rfl, ⟨fun _ => h, fun _ => rfl⟩, rfl⟩

set_option maxHeartbeats 1000000 in
theorem json_some (b off m cap : Nat) (f : Nat → Int) (w : World) (hm : 0 < m) (hmc : m ≤ cap) (hcc : cap ≤ 9223372036854775807) (hn : m ≤ 1000000)
    (hc : ∀ k, k < m → w.cell? ⟨b, off + k, none⟩ = some (.int .u8 (f k))) :
    Calls Try.prog 12 #[.slice (some ⟨b, off, none⟩) m cap] w (JsonPost f m w) := by
  have hc0 := hc 0 hm
  rw [Nat.add_zero] at hc0
  by_cases hs : (f 0 == 45) = true
  · by_cases h1 : m = 1
    · subst h1
      clear hc
      by_cases hcap : cap = 1
      · subst hcap
        go_enter Try.func12, Try.ntmps12
        go_wp2
        go_ret
        exact jp_false (fun h => by have := ((J_minus hs).1 h).1; omega)
      · go_enter Try.func12, Try.ntmps12
        go_wp2
        go_ret
        exact jp_false (fun h => by have := ((J_minus hs).1 h).1; omega)
    · have hcs : ∀ k, k < m - 1 → w.cell? ⟨b, off + 1 + k, none⟩ = some (.int .u8 (f (1 + k))) := fun k hk => by
        have := hc (1 + k) (by omega)
        rwa [← Nat.add_assoc] at this
      clear hc
      have hc1 := hcs 0 (by omega)
      rw [Nat.add_zero, Nat.add_zero] at hc1
      go_enter Try.func12, Try.ntmps12
      go_wp2
      go_loop [4] (fun t => ∃ k : Nat, k ≤ m - 1 ∧ t = .int .i64 k ∧ ∀ j, 1 ≤ j → j < 1 + k → dg (f j)) (fun t => m - 1 - (intOf t).toNat)
      case atStart => exact ⟨0, Nat.zero_le _, rfl, fun j _ h => by omega⟩
      case round =>
        obtain ⟨k, hk, rfl, hall⟩ := hrel
        have HA : Hid (∀ j, 1 ≤ j → j < 1 + k → dg (f j)) := hall
        clear hall
        by_cases hlt : k < m - 1
        · have hck := hcs k hlt
          by_cases e1 : 48 ≤ f (1 + k)
          · by_cases e2 : f (1 + k) ≤ 57
            · clear hcs
              go_wp2
              go_round
              case rel => exact ⟨k + 1, by omega, by go_num, dg_succ HA.out e1 e2⟩
              case measure => simp [intOf]; omega
            · clear hcs
              go_wp2
              go_ret
              exact jp_false (fun h => absurd ((J_minus hs).1 h) (Jb_bad (k := 1 + k) (by omega) (by omega) (by omega)))
          · clear hcs
            go_wp2
            go_ret
            exact jp_false (fun h => absurd ((J_minus hs).1 h) (Jb_bad (k := 1 + k) (by omega) (by omega) (by omega)))
        · obtain rfl : m - 1 = k := by omega
          clear hcs hlt
          by_cases hz : (f 1 == 48) = true
          · by_cases hm1 : 1 < m - 1
            · go_wp2
              go_ret
              exact jp_false (fun h => absurd ⟨by simpa using hz, by omega⟩ ((J_minus hs).1 h).2.2)
            · go_wp2
              go_ret
              exact jp_true ((J_minus hs).2 ⟨by omega, fun j h1 h2 => HA.out j h1 (by omega), fun h => by omega⟩)
          · have hz' : (f 1 == 48) = false := by simpa using hz
            clear hz
            go_wp2
            go_ret
            exact jp_true ((J_minus hs).2 ⟨by omega, fun j h1 h2 => HA.out j h1 (by omega), fun h => by simp [h.1] at hz'⟩)
  · have hs' : (f 0 == 45) = false := by simpa using hs
    clear hs
    have hcs : ∀ k, k < m → w.cell? ⟨b, off + k, none⟩ = some (.int .u8 (f (k))) := fun k hk => by
      exact hc k hk
    clear hc
    go_enter Try.func12, Try.ntmps12
    go_wp2
    go_loop [4] (fun t => ∃ k : Nat, k ≤ m ∧ t = .int .i64 k ∧ ∀ j, 0 ≤ j → j < k → dg (f j)) (fun t => m - (intOf t).toNat)
    case atStart => exact ⟨0, Nat.zero_le _, rfl, fun j _ h => by omega⟩
    case round =>
      obtain ⟨k, hk, rfl, hall⟩ := hrel
      have HA : Hid (∀ j, 0 ≤ j → j < k → dg (f j)) := hall
      clear hall
      by_cases hlt : k < m
      · have hck := hcs k hlt
        by_cases e1 : 48 ≤ f (k)
        · by_cases e2 : f (k) ≤ 57
          · clear hcs
            go_wp2
            go_round
            case rel => exact ⟨k + 1, by omega, by go_num, dg_succ HA.out e1 e2⟩
            case measure => simp [intOf]; omega
          · clear hcs
            go_wp2
            go_ret
            exact jp_false (fun h => absurd ((J_plain hs').1 h) (Jb_bad (k := k) (by omega) (by omega) (by omega)))
        · clear hcs
          go_wp2
          go_ret
          exact jp_false (fun h => absurd ((J_plain hs').1 h) (Jb_bad (k := k) (by omega) (by omega) (by omega)))
      · obtain rfl : m = k := by omega
        clear hcs hlt
        by_cases hz : (f 0 == 48) = true
        · by_cases hm1 : 1 < m
          · go_wp2
            go_ret
            exact jp_false (fun h => absurd ⟨by simpa using hz, by omega⟩ ((J_plain hs').1 h).2.2)
          · go_wp2
            go_ret
            exact jp_true ((J_plain hs').2 ⟨by omega, fun j h1 h2 => HA.out j h1 (by omega), fun h => by omega⟩)
        · have hz' : (f 0 == 48) = false := by simpa using hz
          clear hz
          go_wp2
          go_ret
          exact jp_true ((J_plain hs').2 ⟨by omega, fun j h1 h2 => HA.out j h1 (by omega), fun h => by simp [h.1] at hz'⟩)
#print axioms json_some
end Go.Proofs.Qxb6601322a
