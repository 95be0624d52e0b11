/-
  THE CONTRACTS OF 'plainInteger' (function 24) AND OF ITS SHIM (13).
-/
import Derived.Test.Qxb6601322aRows
import Derived.Test.Qxb6601322aPlain
import Derived.WalkKit
import Derived.ProofKit
import Derived.WalkSpells
namespace Go.Proofs.Qxb6601322a
open Go.RowKit

set_option maxHeartbeats 1000000 in
theorem pi_some (b off n cap i : Nat) (f : Nat → Int) (w : World) (hi : i ≤ n) (hn : n ≤ 1000000)
    (hc : ∀ k, k < n → w.cell? ⟨b, off + k, none⟩ = some (.int .u8 (f k))) :
    Calls Try.prog 24 #[.slice (some ⟨b, off, none⟩) n cap, .int .i64 i] w fun e w' => ∃ r, e = .returned (.int .i64 r) ∧ PI f n i r ∧ w' = w := by
  by_cases h0 : i < n
  · have hci := hc i h0
    by_cases hm : (f i == 45) = true
    · by_cases h1 : i + 1 < n
      · have hci1 := hc (i + 1) h1
        by_cases hd1 : f (i + 1) < 48
        · clear hc
          go_enter Try.func24, Try.ntmps24
          go_wp2
          go_ret
          exact ⟨_, rfl, PI_minus h0 hm (PIb_no (by omega)), rfl⟩
        · by_cases hd2 : 57 < f (i + 1)
          · clear hc
            go_enter Try.func24, Try.ntmps24
            go_wp2
            go_ret
            exact ⟨_, rfl, PI_minus h0 hm (PIb_no (by omega)), rfl⟩
          · by_cases hz : (f (i + 1) == 48) = true
            · clear hc
              go_enter Try.func24, Try.ntmps24
              go_wp2
              go_ret
              exact ⟨_, rfl, PI_minus h0 hm (PIb_zero h1 hz), rfl⟩
            · have hz' : (f (i + 1) == 48) = false := by simpa using hz
              clear hz
              go_enter Try.func24, Try.ntmps24
              go_wp2
              go_loop [1] (fun t => ∃ j : Nat, i + 1 ≤ j ∧ j ≤ n ∧ t = .int .i64 j ∧ ∀ k, i + 1 ≤ k → k < j → dg (f k)) (fun t => n - (intOf t).toNat)
              case atStart => exact ⟨i + 1, Nat.le_refl _, by omega, by go_num, fun k h1 h2 => by omega⟩
              case round =>
                obtain ⟨j, hj1, hj2, rfl, hall⟩ := hrel
                have HA : Hid (∀ k, i + 1 ≤ k → k < j → dg (f k)) := hall
                clear hall
                by_cases hjn : j < n
                · have hcj := hc j hjn
                  by_cases e1 : 48 ≤ f j
                  · by_cases e2 : f j ≤ 57
                    · clear hc
                      go_wp2
                      go_round
                      case rel => exact ⟨j + 1, by omega, by omega, by go_num, dg_succ HA.out e1 e2⟩
                      case measure => simp [intOf]; omega
                    · clear hc
                      go_wp2
                      go_ret
                      exact ⟨_, rfl, PI_minus h0 hm (PIb_run h1 ⟨by omega, by omega⟩ hz' hj1 hj2 HA.out (by omega)), rfl⟩
                  · clear hc
                    go_wp2
                    go_ret
                    exact ⟨_, rfl, PI_minus h0 hm (PIb_run h1 ⟨by omega, by omega⟩ hz' hj1 hj2 HA.out (by omega)), rfl⟩
                · clear hc
                  go_wp2
                  go_ret
                  exact ⟨_, rfl, PI_minus h0 hm (PIb_run h1 ⟨by omega, by omega⟩ hz' hj1 hj2 HA.out (by omega)), rfl⟩
      · clear hc
        go_enter Try.func24, Try.ntmps24
        go_wp2
        go_ret
        exact ⟨_, rfl, PI_minus h0 hm (PIb_no (by omega)), rfl⟩
    · have hm' : (f i == 45) = false := by simpa using hm
      clear hm
      by_cases hd1 : f i < 48
      · clear hc
        go_enter Try.func24, Try.ntmps24
        go_wp2
        go_ret
        exact ⟨_, rfl, PI_plain hm' (PIb_no (by omega)), rfl⟩
      · by_cases hd2 : 57 < f i
        · clear hc
          go_enter Try.func24, Try.ntmps24
          go_wp2
          go_ret
          exact ⟨_, rfl, PI_plain hm' (PIb_no (by omega)), rfl⟩
        · by_cases hz : (f i == 48) = true
          · clear hc
            go_enter Try.func24, Try.ntmps24
            go_wp2
            go_ret
            exact ⟨_, rfl, PI_plain hm' (PIb_zero h0 hz), rfl⟩
          · have hz' : (f i == 48) = false := by simpa using hz
            clear hz
            go_enter Try.func24, Try.ntmps24
            go_wp2
            go_loop [1] (fun t => ∃ j : Nat, i ≤ j ∧ j ≤ n ∧ t = .int .i64 j ∧ ∀ k, i ≤ k → k < j → dg (f k)) (fun t => n - (intOf t).toNat)
            case atStart => exact ⟨i, Nat.le_refl _, by omega, by go_num, fun k h1 h2 => by omega⟩
            case round =>
              obtain ⟨j, hj1, hj2, rfl, hall⟩ := hrel
              have HA : Hid (∀ k, i ≤ k → k < j → dg (f k)) := hall
              clear hall
              by_cases hjn : j < n
              · have hcj := hc j hjn
                by_cases e1 : 48 ≤ f j
                · by_cases e2 : f j ≤ 57
                  · clear hc
                    go_wp2
                    go_round
                    case rel => exact ⟨j + 1, by omega, by omega, by go_num, dg_succ HA.out e1 e2⟩
                    case measure => simp [intOf]; omega
                  · clear hc
                    go_wp2
                    go_ret
                    exact ⟨_, rfl, PI_plain hm' (PIb_run h0 ⟨by omega, by omega⟩ hz' hj1 hj2 HA.out (by omega)), rfl⟩
                · clear hc
                  go_wp2
                  go_ret
                  exact ⟨_, rfl, PI_plain hm' (PIb_run h0 ⟨by omega, by omega⟩ hz' hj1 hj2 HA.out (by omega)), rfl⟩
              · clear hc
                go_wp2
                go_ret
                exact ⟨_, rfl, PI_plain hm' (PIb_run h0 ⟨by omega, by omega⟩ hz' hj1 hj2 HA.out (by omega)), rfl⟩
  · clear hc
    go_enter Try.func24, Try.ntmps24
    go_wp2
    go_ret
    exact ⟨_, rfl, PI_end h0, rfl⟩

/-- THE BYTES OF A SLICE: it is empty; or it leads to n cells, the bytes f. -/
def Bytes (w : World) (ao : Option Addr) (n : Nat) (f : Nat → Int) : Prop :=
  n = 0 ∨ ∃ b off, ao = some ⟨b, off, none⟩ ∧ ∀ k, k < n → w.cell? ⟨b, off + k, none⟩ = some (.int .u8 (f k))

theorem pi_none (ao : Option Addr) (cap : Nat) (f : Nat → Int) (w : World) :
    Calls Try.prog 24 #[.slice ao 0 cap, .int .i64 0] w fun e w' => ∃ r, e = .returned (.int .i64 r) ∧ PI f 0 0 r ∧ w' = w := by
  go_enter Try.func24, Try.ntmps24
  go_wp2
  go_ret
  exact ⟨_, rfl, PI_end (by omega), rfl⟩

theorem pi_any (ao : Option Addr) (n cap i : Nat) (f : Nat → Int) (w : World) (hi : i ≤ n) (hn : n ≤ 1000000) (h : Bytes w ao n f) :
    Calls Try.prog 24 #[.slice ao n cap, .int .i64 i] w fun e w' => ∃ r, e = .returned (.int .i64 r) ∧ PI f n i r ∧ w' = w := by
  rcases h with rfl | ⟨b, off, rfl, hc⟩
  · obtain rfl : i = 0 := by omega
    exact pi_none ao cap f w
  · exact pi_some b off n cap i f w hi hn hc

/-- THE SHIM. -/
theorem zzpi_any (ao : Option Addr) (n cap i : Nat) (f : Nat → Int) (w : World) (hi : i ≤ n) (hn : n ≤ 1000000) (h : Bytes w ao n f) :
    Calls Try.prog 13 #[.slice ao n cap, .int .i64 i] w fun e w' => ∃ r, e = .returned (.int .i64 r) ∧ PI f n i r ∧ w' = w := by
  have c := pi_any ao n cap i f w hi hn h
  have H : Hid (Bytes w ao n f) := h
  clear h
  go_enter Try.func13, Try.ntmps13
  go_wp2_with (go_at_call 24; refine c.mono ?_; rintro e w' ⟨r, rfl, hr, rfl⟩)
  go_ret
  exact ⟨_, rfl, by assumption, rfl⟩
#print axioms zzpi_any
end Go.Proofs.Qxb6601322a
