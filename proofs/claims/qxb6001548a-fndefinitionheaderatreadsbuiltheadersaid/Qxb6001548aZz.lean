/-
  THE CONTRACT OF zzBytes_.. (6).
-/
import Derived.Test.Qxb6001548aChecks
namespace Go.Proofs.Qxb6001548a
open Go.RowKit Go.ChangeShapes Go.WideShapes Go.ChangeAt

/-- zzBytes_..: it answers something -/
def Some2 (w : World) (e : Ending) (w' : World) : Prop := ∃ v : Bool, e = .returned (.bool v) ∧ w = w'
theorem some2 {w : World} (v : Bool) : Some2 w (.returned (.bool v)) w := ⟨v, rfl, rfl⟩
set_option maxHeartbeats 1000000 in
theorem zzbytes_any (a0 ap ab az : Option Addr) (n0 c0 np cp nk ck nz cz : Nat) (name cls : ByteArray) (dis crlf : Bool) (p : Nat → ByteArray) (w : World)
    (b0 : n0 ≤ 9223372036854775807) (b1 : name.size ≤ 9223372036854775807) (b2 : np ≤ 9223372036854775807) (b3 : cls.size ≤ 9223372036854775807) (b4 : nk ≤ 9223372036854775807) (b5 : nz ≤ 9223372036854775807)
    (hp : ∀ k, k < np → (p k).size ≤ 9223372036854775807) (hs : Strs w ap np p) :
    Calls Try.prog 6 #[.slice a0 n0 c0, .string name, .slice ap np cp, .string cls, .bool dis, .slice ab nk ck, .bool crlf, .slice az nz cz] w (Some2 w) := by
  have HS : Hid (Strs w ap np p) := hs
  have HP : Hid (∀ k, k < np → (p k).size ≤ 9223372036854775807) := hp
  clear hs hp
  by_cases h0 : 1048576 < n0
  · go_enter Try.func6, Try.ntmps6
    go_wp2
    go_ret
    exact some2 _
  by_cases h1 : 1048576 < name.size
  · go_enter Try.func6, Try.ntmps6
    go_wp2
    go_ret
    exact some2 _
  by_cases h2 : 1048576 < n0 + name.size
  · go_enter Try.func6, Try.ntmps6
    go_wp2
    go_ret
    exact some2 _
  by_cases h3 : 1048576 < np
  · go_enter Try.func6, Try.ntmps6
    go_wp2
    go_ret
    exact some2 _
  by_cases h4 : 1048576 < n0 + name.size + np
  · go_enter Try.func6, Try.ntmps6
    go_wp2
    go_ret
    exact some2 _
  go_enter Try.func6, Try.ntmps6
  go_wp2
  go_loop [17, 18] (fun t i => ∃ k x : Nat, k ≤ np ∧ x ≤ 1048576 ∧ i = .int .i64 k ∧ t = .int .i64 x) (fun _ i => np - (intOf i).toNat)
  case atStart => exact ⟨0, n0 + name.size + np, Nat.zero_le _, by omega, rfl, by go_num⟩
  case round =>
    obtain ⟨k, x, hk, hx, rfl, rfl⟩ := hrel
    by_cases hlt : k < np
    · rcases HS.out with e | ⟨b, off, rfl, hc⟩
      · omega
      have hck := hc k hlt
      have hpk := HP.out k hlt
      clear hc
      by_cases g1 : 1048576 < (p k).size
      · go_wp2
        go_ret
        exact some2 _
      · by_cases g2 : 1048576 < x + (p k).size
        · go_wp2
          go_ret
          exact some2 _
        · go_wp2
          go_round
          case rel => exact ⟨k + 1, x + (p k).size, by omega, by omega, by go_num, by go_num⟩
          case measure => simp [intOf]; omega
    · by_cases g1 : 1048576 < cls.size
      · go_wp2
        go_ret
        exact some2 _
      by_cases g2 : 1048576 < x + cls.size
      · go_wp2
        go_ret
        exact some2 _
      by_cases g3 : 1048576 < nk
      · go_wp2
        go_ret
        exact some2 _
      by_cases g4 : 1048576 < x + cls.size + nk
      · go_wp2
        go_ret
        exact some2 _
      by_cases g5 : 1048576 < nz
      · go_wp2
        go_ret
        exact some2 _
      by_cases g6 : 1048576 < x + cls.size + nk + nz
      · go_wp2
        go_ret
        exact some2 _
      go_wp2
      go_ret
      exact some2 _
#print axioms zzbytes_any
end Go.Proofs.Qxb6001548a
