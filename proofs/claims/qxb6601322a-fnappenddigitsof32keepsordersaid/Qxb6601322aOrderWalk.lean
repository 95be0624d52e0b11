/-
  THE CONTRACT OF 'zzCompareBytes' (function 23) AT TWO ROWS OF ONE LENGTH, AND THE WALK OF 'FnAppendDigitsOf32KeepsOrder' (function 9).
-/
import Derived.Test.Qxb6601322aFits
namespace Go.Proofs.Qxb6601322a.order
open Go.RowKit Go.ChangeShapes Go.WideShapes Go.ChangeAt

/-- byte order of two rows of d bytes -/
def Cmp (f g : Nat → Int) (d : Nat) (r : Int) : Prop :=
  (∃ k, k < d ∧ (∀ t, t < k → f t = g t) ∧ f k < g k ∧ r = -1) ∨ (∃ k, k < d ∧ (∀ t, t < k → f t = g t) ∧ g k < f k ∧ r = 1) ∨ ((∀ t, t < d → f t = g t) ∧ r = 0)

theorem agree_succ {f g : Nat → Int} {k : Nat} (h : ∀ t, t < k → f t = g t) (e : f k = g k) : ∀ t, t < k + 1 → f t = g t := by
  intro t ht
  rcases Nat.lt_or_ge t k with h' | h'
  · exact h t h'
  · obtain rfl : t = k := by omega
    exact e

/-- the law: byte order is the order of the numbers -/
theorem cmp_dec {N M d : Nat} {r : Int} (hN : N < 10 ^ d) (hM : M < 10 ^ d) (h : Cmp (dec N d) (dec M d) d r) : (N < M ∧ r = -1) ∨ (M < N ∧ r = 1) ∨ (N = M ∧ r = 0) := by
  rcases h with ⟨k, a, b, c, rfl⟩ | ⟨k, a, b, c, rfl⟩ | ⟨a, rfl⟩
  · exact .inl ⟨dec_lt hN hM a b c, rfl⟩
  · exact .inr (.inl ⟨dec_lt hM hN a (fun t ht => (b t ht).symm) c, rfl⟩)
  · exact .inr (.inr ⟨dec_eq hN hM a, rfl⟩)

set_option maxHeartbeats 1000000 in
theorem cmp_any (a0 a1 : Option Addr) (d c0 c1 : Nat) (f g : Nat → Int) (w : World) (hd : d ≤ 1000) (h0 : Bytes w a0 d f) (h1 : Bytes w a1 d g) :
    Calls Try.prog 23 #[.slice a0 d c0, .slice a1 d c1] w fun e w' => ∃ r, e = .returned (.int .i64 r) ∧ Cmp f g d r ∧ Below w.heap.size w w' := by
  have H0 : Hid (Bytes w a0 d f) := h0
  have H1 : Hid (Bytes w a1 d g) := h1
  clear h0 h1
  go_enter Try.func23, Try.ntmps23
  go_wp2
  go_loopw [6] (fun k wr => ∃ t : Nat, t ≤ d ∧ k = .int .i64 t ∧ (∀ j, j < t → f j = g j) ∧ Below w.heap.size w wr) (fun k _ => d - (intOf k).toNat)
  case atStart => exact ⟨0, Nat.zero_le _, rfl, fun j hj => by omega, Below.refl _ _⟩
  case round =>
    obtain ⟨t, ht, rfl, hall, hB⟩ := hrel
    have HA : Hid (∀ j, j < t → f j = g j) := hall
    have HB : Hid (Below w.heap.size w wr) := hB
    by_cases hlt : t < d
    · rcases H0.out with e | ⟨b0, o0, rfl, hc0⟩
      · omega
      rcases H1.out with e | ⟨b1, o1, rfl, hc1⟩
      · omega
      have k0 := (hB.cell (p := ⟨b0, o0 + t, none⟩) (World.block_lt_of_cell? w _ (hc0 t hlt))).trans (hc0 t hlt)
      have k1 := (hB.cell (p := ⟨b1, o1 + t, none⟩) (World.block_lt_of_cell? w _ (hc1 t hlt))).trans (hc1 t hlt)
      clear hc0 hc1 hB hall
      by_cases e1 : f t < g t
      · go_wp2
        go_region
        go_wp2
        go_ret
        exact ⟨_, rfl, .inl ⟨t, hlt, HA.out, e1, rfl⟩, HB.out.drew⟩
      · by_cases e2 : g t < f t
        · go_wp2
          go_region
          go_wp2
          go_region
          go_wp2
          go_ret
          exact ⟨_, rfl, .inr (.inl ⟨t, hlt, HA.out, e2, rfl⟩), HB.out.drew.drew⟩
        · go_wp2
          go_region
          go_wp2
          go_region
          go_wp2
          go_roundw
          case rel => exact ⟨t + 1, by omega, by go_num, agree_succ HA.out (by omega), HB.out.drew.drew⟩
          case measure => simp [intOf]; omega
    · obtain rfl : d = t := by omega
      clear hB hall
      go_wp2
      go_ret
      exact ⟨_, rfl, .inr (.inr ⟨HA.out, rfl⟩), HB.out⟩

/-- the digits appended to nil -/
theorem digits_nil (d N : Nat) (w : World) (hd77 : d ≤ 77) (hN : N < 10 ^ d) (hN32 : N < 4294967296) :
    Calls Try.prog 20 #[.slice none 0 0, .int .u32 N, .int .i64 d] w fun e w' => ∃ ao cap, e = .returned (.slice ao d cap) ∧ Bytes w' ao d (dec N d) ∧ Below w.heap.size w w' := by
  refine (zzdigits_any w.heap.size 0 d N (.slice none 0 0) (fun _ => 0) w hd77 (by omega) hN hN32 ⟨by simp [lst], .inl ⟨rfl, rfl⟩⟩ (.inl rfl)).mono ?_
  rintro e w' ⟨v', rfl, hB, ⟨_, hO⟩ | ⟨rfl, hO⟩⟩
  · rw [Nat.zero_add] at hO
    have hO' : Own w' w.heap.size v' d (dec N d) := hO.congr fun k hk => by unfold cat; rw [if_neg (by omega)]; rfl
    obtain ⟨ao, cap, rfl, hb⟩ := hO'.bytes
    exact ⟨ao, cap, rfl, hb, hB⟩
  · obtain ⟨ao, cap, rfl, hb⟩ := hO.bytes
    exact ⟨ao, cap, rfl, .inl rfl, hB⟩

set_option maxHeartbeats 1000000 in
theorem walk_main (N M d : Nat) (w : World) (hd77 : d ≤ 77) (hN32 : N < 4294967296) (hM32 : M < 4294967296) (hN : N < 10 ^ d) (hM : M < 10 ^ d) :
    Calls Try.prog 9 #[.int .u32 N, .int .u32 M, .int .i64 d] w fun e w' => e = .returned (.bool true) ∧ Below w.heap.size w w' := by
  have c1 := fun w => fits_yes N d w hd77 hN32 hN
  have c2 := fun w => fits_yes M d w hd77 hM32 hM
  have d1 := fun w => digits_nil d N w hd77 hN hN32
  have d2 := fun w => digits_nil d M w hd77 hM hM32
  have PN : Hid (N < 10 ^ d) := hN
  have PM : Hid (M < 10 ^ d) := hM
  clear hN hM
  go_enter Try.func9, Try.ntmps9
  go_wp2_with fail
  refine (c1 _).mono ?_
  rintro e w' ⟨rfl, rfl⟩
  go_wp2_with fail
  refine (c2 _).mono ?_
  rintro e w' ⟨rfl, rfl⟩
  go_wp2_with fail
  refine (d1 _).mono ?_
  rintro e w1 ⟨p0, q0, rfl, hb0, hB1⟩
  go_wp2_with fail
  refine (d2 _).mono ?_
  rintro e w2 ⟨p1, q1, rfl, hb1, hB2⟩
  have c3 := cmp_any p0 p1 d q0 q1 (dec N d) (dec M d) w2 (by omega) (hb0.below hB2) hb1
  have HB : Hid (Below w.heap.size w w2) := hB1.trans (hB2.mono hB1.size)
  clear hb0 hb1 hB1 hB2 c1 c2 d1 d2
  rcases Nat.lt_trichotomy N M with h | h | h
  · go_wp2_with fail
    refine c3.mono ?_
    rintro e w3 ⟨r, rfl, hr, hB3⟩
    obtain rfl : r = -1 := by have := cmp_dec PN.out PM.out hr; omega
    clear c3 hr
    go_wp2
    go_ret
    exact ⟨rfl, HB.out.trans (hB3.mono HB.out.size)⟩
  · subst h
    go_wp2_with fail
    refine c3.mono ?_
    rintro e w3 ⟨r, rfl, hr, hB3⟩
    obtain rfl : r = 0 := by have := cmp_dec PN.out PM.out hr; omega
    clear c3 hr
    go_wp2
    go_ret
    exact ⟨rfl, HB.out.trans (hB3.mono HB.out.size)⟩
  · go_wp2_with fail
    refine c3.mono ?_
    rintro e w3 ⟨r, rfl, hr, hB3⟩
    obtain rfl : r = 1 := by have := cmp_dec PN.out PM.out hr; omega
    clear c3 hr
    go_wp2
    go_ret
    exact ⟨rfl, HB.out.trans (hB3.mono HB.out.size)⟩

theorem walk_all (a0 a1 a2 : Int) (w0 : (Lit.int .u32 a0).wf = true) (w1 : (Lit.int .u32 a1).wf = true) (w : World) :
    Calls Try.prog 9 #[.int .u32 a0, .int .u32 a1, .int .i64 a2] w fun e w' => e = .returned (.bool true) ∧ Below w.heap.size w w' := by
  have b0 := bounds_u32 w0
  have b1 := bounds_u32 w1
  clear w0 w1
  obtain ⟨N, rfl⟩ : ∃ N : Nat, a0 = N := ⟨a0.toNat, by omega⟩
  obtain ⟨M, rfl⟩ : ∃ N : Nat, a1 = N := ⟨a1.toNat, by omega⟩
  by_cases g1 : a2 < 0
  · go_enter Try.func9, Try.ntmps9
    go_wp2
    go_ret
    exact ⟨rfl, Below.refl _ _⟩
  · by_cases g2 : 77 < a2
    · go_enter Try.func9, Try.ntmps9
      go_wp2
      go_ret
      exact ⟨rfl, Below.refl _ _⟩
    · obtain ⟨d, rfl⟩ : ∃ d : Nat, a2 = d := ⟨a2.toNat, by omega⟩
      by_cases hN : N < 10 ^ d
      · by_cases hM : M < 10 ^ d
        · exact walk_main N M d w (by omega) (by omega) (by omega) hN hM
        · have c1 := fun w => fits_yes N d w (by omega) (by omega) hN
          have c2 := fun w => fits_not M d w (by omega) (by omega) hM
          clear hN hM
          go_enter Try.func9, Try.ntmps9
          go_wp2_with fail
          refine (c1 _).mono ?_
          rintro e w' ⟨rfl, rfl⟩
          go_wp2_with fail
          refine (c2 _).mono ?_
          rintro e w' ⟨rfl, rfl⟩
          go_wp2
          go_ret
          exact ⟨rfl, Below.refl _ _⟩
      · have c1 := fun w => fits_not N d w (by omega) (by omega) hN
        clear hN
        go_enter Try.func9, Try.ntmps9
        go_wp2_with fail
        refine (c1 _).mono ?_
        rintro e w' ⟨rfl, rfl⟩
        go_wp2
        go_ret
        exact ⟨rfl, Below.refl _ _⟩
#print axioms walk_all
end Go.Proofs.Qxb6601322a.order
