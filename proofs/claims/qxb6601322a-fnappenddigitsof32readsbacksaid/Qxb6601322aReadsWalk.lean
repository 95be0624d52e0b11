/-
  THE WALK OF 'FnAppendDigitsOf32ReadsBack' (function 8).
-/
import Derived.Test.Qxb6601322aOut
namespace Go.Proofs.Qxb6601322a.reads
open Go.RowKit Go.ChangeShapes Go.WideShapes Go.ChangeAt

theorem small (a0 : Option Addr) (len0 cap0 : Nat) (a1 a2 : Int) (w : World) (h0 : len0 ≤ 65536) :
    Calls Try.prog 21 #[.slice a0 len0 cap0, .int .u32 a1, .int .i64 a2] w fun e w' => e = .returned (.bool true) ∧ w = w' := by
  go_enter Try.func21, Try.ntmps21
  go_wp2
  go_ret
  exact ⟨rfl, rfl⟩

set_option maxHeartbeats 1000000 in
theorem walk_main (a0 : Option Addr) (n cap0 N d : Nat) (f : Nat → Int) (w : World) (h0 : n ≤ 65536) (hd77 : d ≤ 77) (hN32 : N < 4294967296) (hN : N < 10 ^ d)
    (e0 : a0 = none → n = 0 ∧ cap0 = 0) (b0 : Bytes w a0 n f) :
    Calls Try.prog 8 #[.slice a0 n cap0, .int .u32 N, .int .i64 d] w fun e w' => e = .returned (.bool true) ∧ Below w.heap.size w w' := by
  have c0 := copy_tight a0 n cap0 f w (by omega) e0 b0
  have c1 := fun w => fits_yes N d w hd77 hN32 hN
  have c2 := fun w base v hO ht => digits_out base n d N v f w hd77 (by omega) hN hN32 hO ht
  have PN : Hid (N < 10 ^ d) := hN
  clear e0 b0 hN
  go_enter Try.func8, Try.ntmps8
  go_wp2_with (go_at_call 21; refine (small _ _ _ _ _ _ h0).mono ?_; rintro e w' ⟨rfl, rfl⟩)
  refine (c1 _).mono ?_
  rintro e w' ⟨rfl, rfl⟩
  go_wp2_with fail
  refine c0.mono ?_
  rintro e w1 ⟨p0, q0, rfl, ht, hO, hB1⟩
  have c3 := c2 w1 w.heap.size (.slice p0 n q0) hO ht
  clear c0 c1 c2 ht hO
  go_wp2_with fail
  refine c3.mono ?_
  rintro e w2 ⟨p1, q1, rfl, hb, hB2⟩
  have HB : Hid (Below w.heap.size w w2) := hB1.trans (hB2.mono hB1.size)
  have HY : Hid (Bytes w2 p1 (n + d) (cat f n (dec N d))) := hb
  clear c3 hB1 hB2 hb
  go_wp2
  go_loop [9, 10, 11] (fun v k _ => ∃ t q : Nat, t ≤ d ∧ hd N d t = q ∧ v = .int .u64 q ∧ k = .int .i64 ((n + t : Nat) : Int)) (fun _ k _ => n + d - (intOf k).toNat)
  case atStart => exact ⟨0, 0, Nat.zero_le _, hd_none PN.out, rfl, rfl⟩
  case round =>
    obtain ⟨t, q, ht, hq, rfl, rfl⟩ := hrel
    have hqN : q ≤ N := by rw [← hq]; exact hd_le N d t
    have HQ : Hid (hd N d t = q) := hq
    clear hq
    by_cases hlt : t < d
    · rcases HY.out with e | ⟨b, off, rfl, hc⟩
      · omega
      have hct := hc (n + t) (by omega)
      rw [cat_ge] at hct
      obtain ⟨x, hx⟩ : ∃ x, x = dec N d t := ⟨_, rfl⟩
      rw [← hx] at hct
      have hr := dec_rng N d t
      rw [← hx] at hr
      have hnx := hd_next (N := N) hlt
      rw [HQ.out, ← hx] at hnx
      have hle := hd_le N d (t + 1)
      have HX : Hid (((hd N d (t + 1) : Nat) : Int) = q * 10 + (x - 48)) := hnx
      have hbd : (q : Int) * 10 + (x - 48) ≤ 4294967295 := by omega
      clear hc hx hnx hle
      go_wp2
      go_round
      case rel => exact ⟨t + 1, hd N d (t + 1), by omega, rfl, by rw [HX.out], by go_num⟩
      case measure => simp [intOf]; omega
    · obtain rfl : d = t := by omega
      have e : N = q := by rw [← HQ.out, hd_all]
      clear HQ HY PN
      subst e
      go_wp2
      go_ret
      exact ⟨ret_bool (by simp), HB.out⟩

theorem walk_all (a0 : Option Addr) (len0 cap0 : Nat) (z0 : List Int) (a1 a2 : Int) (w : World) (w0 : IsRow .u8 w a0 len0 cap0 z0) (w1 : (Lit.int .u32 a1).wf = true) :
    Calls Try.prog 8 #[.slice a0 len0 cap0, .int .u32 a1, .int .i64 a2] w fun e w' => e = .returned (.bool true) ∧ Below w.heap.size w w' := by
  obtain ⟨l0, e0, b0⟩ := w0.bytes
  have b1 := bounds_u32 w1
  clear w0 w1
  obtain ⟨N, rfl⟩ : ∃ N : Nat, a1 = N := ⟨a1.toNat, by omega⟩
  by_cases g0 : len0 ≤ 65536
  · by_cases g1 : a2 < 0
    · clear e0 b0
      go_enter Try.func8, Try.ntmps8
      go_wp2
      go_ret
      exact ⟨rfl, Below.refl _ _⟩
    · by_cases g2 : 77 < a2
      · clear e0 b0
        go_enter Try.func8, Try.ntmps8
        go_wp2
        go_ret
        exact ⟨rfl, Below.refl _ _⟩
      · obtain ⟨d, rfl⟩ : ∃ d : Nat, a2 = d := ⟨a2.toNat, by omega⟩
        by_cases hN : N < 10 ^ d
        · exact walk_main a0 len0 cap0 N d _ w g0 (by omega) (by omega) hN e0 b0
        · have c1 := fun w => fits_not N d w (by omega) (by omega) hN
          clear hN e0 b0
          go_enter Try.func8, Try.ntmps8
          go_wp2_with (go_at_call 21; refine (small _ _ _ _ _ _ g0).mono ?_; rintro e w' ⟨rfl, rfl⟩)
          refine (c1 _).mono ?_
          rintro e w' ⟨rfl, rfl⟩
          go_wp2
          go_ret
          exact ⟨rfl, Below.refl _ _⟩
  · clear e0 b0
    rcases (show 1048576 < len0 ∨ len0 ≤ 1048576 by omega) with h | h
    all_goals
      go_enter Try.func8, Try.ntmps8
      go_wp2
      go_ret
      exact ⟨rfl, Below.refl _ _⟩
#print axioms walk_all
end Go.Proofs.Qxb6601322a.reads
