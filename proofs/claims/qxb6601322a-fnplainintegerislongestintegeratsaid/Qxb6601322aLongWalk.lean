/-
  THE WALK OF 'FnPlainIntegerIsLongestIntegerAt' (function 3).
-/
import Derived.Test.Qxb6601322aJson
namespace Go.Proofs.Qxb6601322a.longest
open Go.ChangeShapes Go.WideShapes Go.ChangeAt Go.RowKit

theorem small (a0 : Option Addr) (len0 cap0 : Nat) (a2 : Int) (w : World) (h0 : len0 ≤ 65536) :
    Calls Try.prog 10 #[.slice a0 len0 cap0, .int .i64 a2] w fun e w' => e = .returned (.bool true) ∧ w = w' := by
  go_enter Try.func10, Try.ntmps10
  go_wp2
  go_ret
  exact ⟨rfl, rfl⟩

/-- the call of zzIsJSONInteger at data[i:j] -/
theorem json_at (b n cap i j : Nat) (f : Nat → Int) (w : World) (hij : i < j) (hj : j ≤ n) (hnc : n ≤ cap) (hcc : cap ≤ 9223372036854775807) (hn : n ≤ 1000000)
    (hc : ∀ k, k < n → w.cell? ⟨b, k, none⟩ = some (.int .u8 (f k))) :
    Calls Try.prog 12 #[.slice (some ⟨b, i, none⟩) (j - i) (cap - i)] w (JsonPost (fun k => f (i + k)) (j - i) w) :=
  json_some b i (j - i) (cap - i) (fun k => f (i + k)) w (by omega) (by omega) (by omega) (by omega) (fun k hk => hc (i + k) (by omega))

theorem post_cases {f : Nat → Int} {i j : Nat} {w w' : World} {e : Ending} (hij : i < j) (h : JsonPost (fun k => f (i + k)) (j - i) w e w') :
    w = w' ∧ ((e = .returned (.bool true) ∧ J f i j) ∨ (e = .returned (.bool false) ∧ ¬ J f i j)) := by
  obtain ⟨v, rfl, hv, rfl⟩ := h
  rw [J_shift, show i + (j - i) = j by omega] at hv
  cases v with
  | true => exact ⟨rfl, .inl ⟨rfl, hv.1 rfl⟩⟩
  | false => exact ⟨rfl, .inr ⟨rfl, fun h => by have := hv.2 h; cases this⟩⟩

set_option maxHeartbeats 1000000 in
theorem walk_main (a0 : Option Addr) (n cap0 : Nat) (i : Nat) (f : Nat → Int) (w : World) (h0 : n ≤ 4096) (hi : i ≤ n)
    (e0 : a0 = none → n = 0 ∧ cap0 = 0) (b0 : Bytes w a0 n f) :
    Calls Try.prog 3 #[.slice a0 n cap0, .int .i64 i] w fun e w' => e = .returned (.bool true) ∧ Below w.heap.size w w' := by
  have c0 := copy_out a0 n cap0 f w (by omega) e0 b0
  clear e0 b0
  go_enter Try.func3, Try.ntmps3
  go_wp2_with (go_at_call 10; refine (small _ _ _ _ _ (by omega)).mono ?_; rintro e w' ⟨rfl, rfl⟩)
  refine c0.mono ?_
  rintro e w1 ⟨p0, q0, rfl, hp0, hO0, hB0, hW1⟩
  clear c0
  have BB : Hid (Bytes w1 p0 n f) := hB0
  have WW : Hid (Below w.heap.size w w1) := hW1
  have hq : Hid (i < n → ∃ g, p0 = some ⟨g, 0, none⟩ ∧ n ≤ q0 ∧ q0 ≤ 9223372036854775807 ∧ ∀ k, k < n → w1.cell? ⟨g, k, none⟩ = some (.int .u8 (f k))) := by
    intro hlt
    rcases hO0.2 with ⟨e, rfl⟩ | ⟨g, cap, cur, hv, hb, hg, hc1, hc2, _⟩
    · omega
    · have hO1 := hO0
      simp only [Value.slice.injEq, true_and] at hv
      obtain ⟨rfl, rfl⟩ := hv
      exact ⟨g, rfl, hc1, by unfold maxLen at hc2; omega, fun k hk => hO0.cell hk⟩
  clear hO0 hB0 hW1 hp0
  go_wp2
  go_loop [5, 6] (fun r j => ∃ (x : Int) (t : Nat), i + 1 ≤ t ∧ t ≤ n + 1 ∧ j = .int .i64 t ∧ r = .int .i64 x ∧ Lst f i t x) (fun _ j => n + 1 - (intOf j).toNat)
  case atStart => exact ⟨-1, i + 1, Nat.le_refl _, by omega, by go_num, rfl, Lst_start f i⟩
  case round =>
    obtain ⟨x, t, ht1, ht2, rfl, rfl, hL⟩ := hrel
    have HL : Hid (Lst f i t x) := hL
    clear hL
    by_cases hlt : t ≤ n
    · obtain ⟨g, rfl, hq1, hq2, hc⟩ := hq.out (by omega)
      have cj := json_at g n q0 i t f w1 (by omega) hlt hq1 hq2 (by omega) hc
      clear hc
      go_wp2_with fail
      refine cj.mono ?_
      rintro e w' hp
      obtain ⟨hw, hv⟩ := post_cases (by omega) hp
      clear hp
      subst hw
      rcases hv with ⟨rfl, hJ⟩ | ⟨rfl, hJ⟩
      · have HJ : Hid (J f i t) := hJ
        clear hJ
        go_wp2
        go_round
        case rel => exact ⟨t, t + 1, by omega, by omega, by go_num, rfl, Lst_hit (by omega) HJ.out⟩
        case measure => simp [intOf]; omega
      · have HJ : Hid (¬ J f i t) := hJ
        clear hJ
        go_wp2
        go_round
        case rel => exact ⟨x, t + 1, by omega, by omega, by go_num, rfl, Lst_miss HL.out HJ.out⟩
        case measure => simp [intOf]; omega
    · obtain rfl : n + 1 = t := by omega
      have d1 := zzpi_any p0 n q0 i f w1 hi (by omega) BB.out
      go_wp2_with (go_at_call 13; refine d1.mono ?_; rintro e w' ⟨r1, rfl, hr1, hw⟩; obtain rfl := hw.symm; clear hw)
      go_ret
      exact ⟨ret_bool (by rw [PI_is_Lst hr1 HL.out]; simp), WW.out⟩

theorem walk_all (a0 : Option Addr) (len0 cap0 : Nat) (z0 : List Int) (a1 : Int) (w : World) (w0 : IsRow .u8 w a0 len0 cap0 z0) :
    Calls Try.prog 3 #[.slice a0 len0 cap0, .int .i64 a1] w fun e w' => e = .returned (.bool true) ∧ Below w.heap.size w w' := by
  obtain ⟨l0, e0, b0⟩ := w0.bytes
  clear w0
  by_cases g0 : len0 ≤ 4096
  · by_cases g2 : a1 < 0
    · clear e0 b0
      go_enter Try.func3, Try.ntmps3
      go_wp2
      go_ret
      exact ⟨rfl, Below.refl _ _⟩
    · by_cases g3 : (len0 : Int) < a1
      · clear e0 b0
        go_enter Try.func3, Try.ntmps3
        go_wp2
        go_ret
        exact ⟨rfl, Below.refl _ _⟩
      · obtain ⟨i, rfl⟩ : ∃ i : Nat, a1 = i := ⟨a1.toNat, by omega⟩
        exact walk_main a0 len0 cap0 i _ w g0 (by omega) e0 b0
  · clear e0 b0
    rcases (show 1048576 < len0 ∨ len0 ≤ 1048576 by omega) with h | h
    all_goals
      go_enter Try.func3, Try.ntmps3
      go_wp2
      go_ret
      exact ⟨rfl, Below.refl _ _⟩
#print axioms walk_all
end Go.Proofs.Qxb6601322a.longest
