/-
  THE CONTRACT OF 'zzFitsDigits' (function 18).
-/
import Derived.Test.Qxb6601322aDigits
namespace Go.Proofs.Qxb6601322a
open Go.RowKit Go.ChangeShapes Go.WideShapes Go.ChangeAt

/-- What the call leaves: its answer says whether N < 10^d; the world stands. -/
def FitsPost (N d : Nat) (w : World) (e : Ending) (w' : World) : Prop := ∃ v : Bool, e = .returned (.bool v) ∧ (v = true ↔ N < 10 ^ d) ∧ w = w'
theorem FitsPost.cases {N d : Nat} {w w' : World} {e : Ending} (h : FitsPost N d w e w') : w = w' ∧ ((e = .returned (.bool true) ∧ N < 10 ^ d) ∨ (e = .returned (.bool false) ∧ ¬ N < 10 ^ d)) := by
  obtain ⟨v, rfl, hv, rfl⟩ := h
  cases v with
  | true => exact ⟨rfl, .inl ⟨rfl, hv.1 rfl⟩⟩
  | false => exact ⟨rfl, .inr ⟨rfl, fun h => by have := hv.2 h; cases this⟩⟩
theorem fp_mk {N d : Nat} {w : World} {v : Bool} (h : v = true ↔ N < 10 ^ d) : FitsPost N d w (.returned (.bool v)) w := ⟨v, rfl, h, rfl⟩
theorem pow_bd {k : Nat} (h : k ≤ 9) : 10 ^ k ≤ 1000000000 := by
  have : 10 ^ k ≤ 10 ^ 9 := Nat.pow_le_pow_right (by omega) h
  simpa using this
theorem pow_big {N d : Nat} (h : 10 ≤ d) (hN : N < 4294967296) : N < 10 ^ d := by
  have : 10 ^ 10 ≤ 10 ^ d := Nat.pow_le_pow_right (by omega) h
  have e : (10 : Nat) ^ 10 = 10000000000 := by decide
  omega

theorem fits_any (N d : Nat) (w : World) (hd77 : d ≤ 77) (hN : N < 4294967296) : Calls Try.prog 18 #[.int .u32 N, .int .i64 d] w (FitsPost N d w) := by
  by_cases hd10 : 10 ≤ d
  · go_enter Try.func18, Try.ntmps18
    go_wp2
    go_ret
    exact fp_mk ⟨fun _ => pow_big hd10 hN, fun _ => rfl⟩
  · go_enter Try.func18, Try.ntmps18
    go_wp2
    go_loop [5, 6] (fun p k => ∃ t q : Nat, t ≤ d ∧ q = 10 ^ t ∧ p = .int .u64 q ∧ k = .int .i64 t) (fun _ k => d - (intOf k).toNat)
    case atStart => exact ⟨0, 1, Nat.zero_le _, rfl, rfl, rfl⟩
    case round =>
      obtain ⟨t, q, ht, hq, rfl, rfl⟩ := hrel
      have hb : q ≤ 1000000000 := by rw [hq]; exact pow_bd (by omega)
      have HQ : Hid (q = 10 ^ t) := hq
      clear hq
      by_cases hlt : t < d
      · go_wp2
        go_round
        case rel => exact ⟨t + 1, q * 10, by omega, by rw [HQ.out, Nat.pow_succ], by go_num, by go_num⟩
        case measure => simp [intOf]; omega
      · obtain rfl : d = t := by omega
        go_wp2
        go_ret
        exact fp_mk (by rw [← HQ.out]; simp)
theorem fits_yes (N d : Nat) (w : World) (hd77 : d ≤ 77) (hN : N < 4294967296) (h : N < 10 ^ d) : Calls Try.prog 18 #[.int .u32 N, .int .i64 d] w fun e w' => e = .returned (.bool true) ∧ w = w' := by
  refine (fits_any N d w hd77 hN).mono fun e w' hp => ?_
  obtain ⟨rfl, ⟨rfl, _⟩ | ⟨_, h'⟩⟩ := hp.cases
  · exact ⟨rfl, rfl⟩
  · exact absurd h h'
theorem fits_not (N d : Nat) (w : World) (hd77 : d ≤ 77) (hN : N < 4294967296) (h : ¬ N < 10 ^ d) : Calls Try.prog 18 #[.int .u32 N, .int .i64 d] w fun e w' => e = .returned (.bool false) ∧ w = w' := by
  refine (fits_any N d w hd77 hN).mono fun e w' hp => ?_
  obtain ⟨rfl, ⟨_, h'⟩ | ⟨rfl, _⟩⟩ := hp.cases
  · exact absurd h' h
  · exact ⟨rfl, rfl⟩
#print axioms fits_not
end Go.Proofs.Qxb6601322a
