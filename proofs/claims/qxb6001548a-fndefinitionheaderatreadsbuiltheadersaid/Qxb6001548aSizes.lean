/-
  THE CONTRACTS OF headerInputTooBig (7) AND zzBytes_.. (6).
-/
import Derived.Test.Qxb6001548aChecks
namespace Go.Proofs.Qxb6001548a
open Go.RowKit Go.ChangeShapes Go.WideShapes Go.ChangeAt

/-- the first k lengths -/
def sumTo (p : Nat → ByteArray) : Nat → Nat
  | 0 => 0
  | k + 1 => sumTo p k + (p k).size

/-- What headerInputTooBig leaves: where it says no, the sum is small. -/
def BigPost (t : Nat) (w : World) (e : Ending) (w' : World) : Prop := ∃ v : Bool, e = .returned (.bool v) ∧ (v = false → t ≤ 1048576) ∧ w = w'
theorem big_yes {t : Nat} {w : World} : BigPost t w (.returned (.bool true)) w := ⟨true, rfl, fun e => absurd e (by simp), rfl⟩
theorem big_no {t : Nat} {w : World} (h : t ≤ 1048576) : BigPost t w (.returned (.bool false)) w := ⟨false, rfl, fun _ => h, rfl⟩

set_option maxHeartbeats 1000000 in
theorem big_any (a0 ap ab az : Option Addr) (n0 c0 np cp nk ck nz cz : Nat) (name cls : ByteArray) (p : Nat → ByteArray) (w : World)
    (b0 : n0 ≤ 9223372036854775807) (b1 : name.size ≤ 9223372036854775807) (b2 : np ≤ 9223372036854775807) (b3 : cls.size ≤ 9223372036854775807) (b4 : nk ≤ 9223372036854775807) (b5 : nz ≤ 9223372036854775807)
    (hp : ∀ k, k < np → (p k).size ≤ 9223372036854775807) (hs : Strs w ap np p) :
    Calls Try.prog 7 #[.slice a0 n0 c0, .string name, .slice ap np cp, .string cls, .slice ab nk ck, .slice az nz cz] w (BigPost (n0 + name.size + cls.size + nz + nk + 16 * np + sumTo p np) w) := by
  by_cases h0 : 1048576 < n0
  · go_enter Try.func7, Try.ntmps7
    go_wp2
    go_ret
    exact big_yes
  by_cases h1 : 1048576 < name.size
  · go_enter Try.func7, Try.ntmps7
    go_wp2
    go_ret
    exact big_yes
  by_cases h2 : 1048576 < cls.size
  · go_enter Try.func7, Try.ntmps7
    go_wp2
    go_ret
    exact big_yes
  by_cases h3 : 1048576 < nz
  · go_enter Try.func7, Try.ntmps7
    go_wp2
    go_ret
    exact big_yes
  by_cases h4 : 1048576 < nk
  · go_enter Try.func7, Try.ntmps7
    go_wp2
    go_ret
    exact big_yes
  by_cases h5 : 65536 < np
  · go_enter Try.func7, Try.ntmps7
    go_wp2
    go_ret
    exact big_yes
  by_cases h6 : 1048576 < n0 + name.size + cls.size + nz + nk + 16 * np
  · go_enter Try.func7, Try.ntmps7
    go_wp2
    go_ret
    exact big_yes
  have HS : Hid (Strs w ap np p) := hs
  have HP : Hid (∀ k, k < np → (p k).size ≤ 9223372036854775807) := hp
  clear hs hp
  go_enter Try.func7, Try.ntmps7
  go_wp2
  go_loop [13, 14] (fun t i => ∃ k : Nat, k ≤ np ∧ i = .int .i64 k ∧ t = .int .i64 ((n0 + name.size + cls.size + nz + nk + 16 * np + sumTo p k : Nat) : Int) ∧ n0 + name.size + cls.size + nz + nk + 16 * np + sumTo p k ≤ 1048576) (fun _ i => np - (intOf i).toNat)
  case atStart => exact ⟨0, Nat.zero_le _, rfl, by go_num, by simp [sumTo]; omega⟩
  case round =>
    obtain ⟨k, hk, rfl, rfl, hle⟩ := hrel
    by_cases hlt : k < np
    · rcases HS.out with e | ⟨b, off, rfl, hc⟩
      · omega
      have hck := hc k hlt
      have hpk := HP.out k hlt
      have hsum : n0 + name.size + cls.size + nz + nk + 16 * np + sumTo p (k + 1) = n0 + name.size + cls.size + nz + nk + 16 * np + sumTo p k + (p k).size := by simp [sumTo]; omega
      have HX : Hid (n0 + name.size + cls.size + nz + nk + 16 * np + sumTo p (k + 1) = n0 + name.size + cls.size + nz + nk + 16 * np + sumTo p k + (p k).size) := hsum
      clear hc hsum
      generalize n0 + name.size + cls.size + nz + nk + 16 * np + sumTo p k = T at hle HX ⊢
      by_cases g1 : 1048576 < (p k).size
      · go_wp2
        go_ret
        exact big_yes
      · by_cases g2 : 1048576 < T + (p k).size
        · go_wp2
          go_ret
          exact big_yes
        · go_wp2
          go_round
          case rel => exact ⟨k + 1, by omega, by go_num, by rw [HX.out]; go_num, by rw [HX.out]; omega⟩
          case measure => simp [intOf]; omega
    · obtain rfl : k = np := by omega
      go_wp2
      go_ret
      exact big_no hle
#print axioms big_any
end Go.Proofs.Qxb6001548a
