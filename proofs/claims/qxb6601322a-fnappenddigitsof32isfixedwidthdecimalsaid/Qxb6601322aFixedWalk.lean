/-
  THE CONTRACT OF 'zzDecimalFixed' (function 19), AND THE WALK OF 'FnAppendDigitsOf32IsFixedWidthDecimal' (function 7).
-/
import Derived.Test.Qxb6601322aOut
namespace Go.Proofs.Qxb6601322a.fixed
open Go.RowKit Go.ChangeShapes Go.WideShapes Go.ChangeAt

/-- the row while it is written from the right: 0 below j, the digits from j on -/
def tail (N d j : Nat) : Nat → Int := fun k => if k < j then 0 else dec N d k
theorem tail_step (N d j : Nat) (x : Int) (hx : x = dec N d j) : upd (tail N d (j + 1)) j x = tail N d j := by
  funext k
  unfold upd tail
  by_cases h : k = j
  · subst h; rw [if_pos rfl, if_neg (by omega), hx]
  · rw [if_neg h]
    by_cases h2 : k < j
    · rw [if_pos (by omega), if_pos h2]
    · rw [if_neg (by omega), if_neg h2]

set_option maxHeartbeats 400000 in
theorem decimal_any (N d : Nat) (w : World) (hd77 : d ≤ 77) (hN32 : N < 4294967296) :
    Calls Try.prog 19 #[.int .u32 N, .int .i64 d] w fun e w' => ∃ ao cap, e = .returned (.slice ao d cap) ∧ Bytes w' ao d (dec N d) ∧ Below w.heap.size w w' := by
  obtain ⟨i0, hi, hz0, hz1, hz2⟩ := info_parts Try.info5
  go_enter Try.func19, Try.ntmps19
  go_wp2_with (at_make; refine wpList_make_full _ rfl _ _ 22 rfl w.heap.size 5 i0 (.int .u8 0) 1 Try.underlying22 hi hz0 hz1 .i64 .i64 _ _ d rfl rfl rfl rfl (by rw [hz2]; omega) (by unfold maxLen; omega) (Nat.le_refl _) ?_; intro w0 hown0 hgrow0)
  have hO : Own w0 w.heap.size (.slice (some ⟨w.heap.size, 0, none⟩) d d) d (tail N d d) := by
    have e : (madeCells (Value.int IntKind.u8 0).cells (d * 1)).toList = lst (tail N d d) d := by
      rw [Nat.mul_one]
      exact (toList_madeCells_one (.int .u8 0) d).trans ((lst_zero d).trans (lst_congr fun k hk => by unfold tail; rw [if_pos hk]))
    unfold Own; rw [← e]; exact hown0
  have hB : Below w.heap.size w w0 := (Below.refl _ _).grown hgrow0 (Nat.le_refl _) (fun k hk => by simp at hk)
  clear hown0 hgrow0 hi hz0 hz1 hz2
  go_loopw [6, 7] (fun m k wr => ∃ j q : Nat, j ≤ d ∧ hd N d j = q ∧ m = .int .u32 q ∧ k = .int .i64 ((j : Int) - 1) ∧ Own wr w.heap.size (.slice (some ⟨w.heap.size, 0, none⟩) d d) d (tail N d j) ∧ Below w.heap.size w wr) (fun _ k _ => (intOf k + 1).toNat)
  case atStart => exact ⟨d, N, Nat.le_refl _, hd_all N d, rfl, rfl, hO, hB⟩
  case round =>
    obtain ⟨j, q, hj, hq, rfl, rfl, hown, hbel⟩ := hrel
    clear hO hB
    have hqN : q ≤ N := by rw [← hq]; exact hd_le N d j
    by_cases h1 : 1 ≤ j
    · obtain ⟨j, rfl⟩ : ∃ j', j = j' + 1 := ⟨j - 1, by omega⟩
      have hst := hown.cell (k := j) (by omega)
      have hfz := World.ownsRow.frozenAt hown j
      have HO : Hid (Own wr w.heap.size (.slice (some ⟨w.heap.size, 0, none⟩) d d) d (tail N d (j + 1))) := hown
      have HB : Hid (Below w.heap.size w wr) := hbel
      have HQ : Hid (hd N d (j + 1) = q) := hq
      clear hown hbel hq
      go_wp2
      go_roundw
      case rel => exact ⟨j, q / 10, by omega, by rw [hd_step (by omega), HQ.out], by go_num, by go_num, by rw [← tail_step N d j _ (by unfold dec; rw [HQ.out])]; exact HO.out.stored j _, HB.out.setCell (Nat.le_refl _) _⟩
      case measure => simp [intOf]
    · obtain rfl : j = 0 := by omega
      have HO : Hid (Own wr w.heap.size (.slice (some ⟨w.heap.size, 0, none⟩) d d) d (tail N d 0)) := hown
      have HB : Hid (Below w.heap.size w wr) := hbel
      clear hown hbel hq
      go_wp2
      go_ret
      exact ⟨_, _, rfl, .inr ⟨_, 0, rfl, fun k hk => by rw [Nat.zero_add]; exact HO.out.cell hk⟩, HB.out⟩

theorem small (a0 : Option Addr) (len0 cap0 : Nat) (a1 a2 : Int) (w : World) (h0 : len0 ≤ 65536) :
    Calls Try.prog 17 #[.slice a0 len0 cap0, .int .u32 a1, .int .i64 a2] w fun e w' => e = .returned (.bool true) ∧ w = w' := by
  go_enter Try.func17, Try.ntmps17
  go_wp2
  go_ret
  exact ⟨rfl, rfl⟩

theorem Tight.ao {ao : Option Addr} {n cap : Nat} (h : Tight (.slice ao n cap) n) : ao = none → n = 0 ∧ cap = 0 := by
  rintro rfl
  rcases h with h | ⟨g, h⟩
  · simpa using h
  · simp at h

set_option maxHeartbeats 2000000 in
theorem walk_main (a0 : Option Addr) (n cap0 N d : Nat) (f : Nat → Int) (w : World) (h0 : n ≤ 65536) (hd77 : d ≤ 77) (hN32 : N < 4294967296) (hN : N < 10 ^ d)
    (e0 : a0 = none → n = 0 ∧ cap0 = 0) (b0 : Bytes w a0 n f) :
    Calls Try.prog 7 #[.slice a0 n cap0, .int .u32 N, .int .i64 d] w fun e w' => e = .returned (.bool true) ∧ Below w.heap.size w w' := by
  have c0 := copy_tight a0 n cap0 f w (by omega) e0 b0
  have c1 := fun w => fits_yes N d w hd77 hN32 hN
  have c2 := fun w => decimal_any N d w hd77 hN32
  have c3 := fun w base v hO ht => digits_out base n d N v f w hd77 (by omega) hN hN32 hO ht
  clear e0 b0 hN
  go_enter Try.func7, Try.ntmps7
  go_wp2_with (go_at_call 17; refine (small _ _ _ _ _ _ h0).mono ?_; rintro e w' ⟨rfl, rfl⟩)
  refine (c1 _).mono ?_
  rintro e w' ⟨rfl, rfl⟩
  go_wp2_with fail
  refine c0.mono ?_
  rintro e w1 ⟨p0, q0, rfl, ht, hO, hB1⟩
  have b1 : Bytes w1 p0 n f := by
    obtain ⟨ao, cap, e, hb⟩ := hO.bytes
    simp only [Value.slice.injEq, true_and] at e
    rw [e.1]; exact hb
  have c4 := copy_out p0 n q0 f w1 (by omega) (Tight.ao ht) b1
  clear c0 c1 b1
  go_wp2_with fail
  refine c4.mono ?_
  rintro e w2 ⟨p1, q1, rfl, -, -, y1, hB2⟩
  clear c4
  go_wp2_with fail
  refine (c2 _).mono ?_
  rintro e w3 ⟨p2, q2, rfl, y2, hB3⟩
  have hB13 : Below w1.heap.size w1 w3 := hB2.trans (hB3.mono hB2.size)
  have c5 := c3 w3 w.heap.size (.slice p0 n q0) (hO.below hB13) ht
  clear c2 c3
  go_wp2_with fail
  refine c5.mono ?_
  rintro e w4 ⟨p3, q3, rfl, y3, hB4⟩
  clear c5
  have Y1 : Hid (Bytes w4 p1 n f) := (y1.below hB3).below hB4
  have Y2 : Hid (Bytes w4 p2 d (dec N d)) := y2.below hB4
  have Y3 : Hid (Bytes w4 p3 (n + d) (cat f n (dec N d))) := y3
  have HB : Hid (Below w.heap.size w w4) := (hB1.trans (hB13.mono hB1.size)).trans (hB4.mono (Nat.le_trans hB1.size hB13.size))
  clear y1 y2 y3 hB1 hB2 hB3 hB4 hB13 hO ht
  go_wp2
  go_loopw [10] (fun k wr => ∃ t : Nat, t ≤ n ∧ k = .int .i64 t ∧ Below w4.heap.size w4 wr) (fun k _ => n - (intOf k).toNat)
  case atStart => exact ⟨0, Nat.zero_le _, rfl, Below.refl _ _⟩
  case round =>
    obtain ⟨t, ht, rfl, hB⟩ := hrel
    have HW : Hid (Below w4.heap.size w4 wr) := hB
    by_cases hlt : t < n
    · rcases Y1.out with e | ⟨b1, o1, rfl, hc1⟩
      · omega
      rcases Y3.out with e | ⟨b3, o3, rfl, hc3⟩
      · omega
      have k1 := (hB.cell (p := ⟨b1, o1 + t, none⟩) (World.block_lt_of_cell? w4 _ (hc1 t hlt))).trans (hc1 t hlt)
      have k3 := (hB.cell (p := ⟨b3, o3 + t, none⟩) (World.block_lt_of_cell? w4 _ (hc3 t (by omega)))).trans (hc3 t (by omega))
      rw [cat_lt hlt] at k3
      clear hc1 hc3 hB
      go_wp2
      go_region
      go_wp2
      go_roundw
      case rel => exact ⟨t + 1, by omega, by go_num, HW.out.drew⟩
      case measure => simp [intOf]; omega
    · obtain rfl : n = t := by omega
      clear hB
      go_wp2
      go_loopw [11] (fun k wr => ∃ t : Nat, t ≤ d ∧ k = .int .i64 t ∧ Below w4.heap.size w4 wr) (fun k _ => d - (intOf k).toNat)
      case atStart => exact ⟨0, Nat.zero_le _, rfl, HW.out⟩
      case round =>
        clear HW ht hlt
        obtain ⟨t, ht, rfl, hB⟩ := hrel
        have HW : Hid (Below w4.heap.size w4 wr) := hB
        by_cases hlt : t < d
        · rcases Y2.out with e | ⟨b2, o2, rfl, hc2⟩
          · omega
          rcases Y3.out with e | ⟨b3, o3, rfl, hc3⟩
          · omega
          have k2 := (hB.cell (p := ⟨b2, o2 + t, none⟩) (World.block_lt_of_cell? w4 _ (hc2 t hlt))).trans (hc2 t hlt)
          have k3 := (hB.cell (p := ⟨b3, o3 + (n + t), none⟩) (World.block_lt_of_cell? w4 _ (hc3 (n + t) (by omega)))).trans (hc3 (n + t) (by omega))
          rw [cat_ge] at k3
          clear hc2 hc3 hB
          go_wp2
          go_region
          go_wp2
          go_roundw
          case rel => exact ⟨t + 1, by omega, by go_num, HW.out.drew⟩
          case measure => simp [intOf]; omega
        · clear hB
          go_wp2
          go_ret
          exact ⟨rfl, HB.out.trans (HW.out.mono HB.out.size)⟩

theorem walk_all (a0 : Option Addr) (len0 cap0 : Nat) (z0 : List Int) (a1 a2 : Int) (w : World) (w0 : IsRow .u8 w a0 len0 cap0 z0) (w1 : (Lit.int .u32 a1).wf = true) :
    Calls Try.prog 7 #[.slice a0 len0 cap0, .int .u32 a1, .int .i64 a2] w fun e w' => e = .returned (.bool true) ∧ Below w.heap.size w w' := by
  obtain ⟨l0, e0, b0⟩ := w0.bytes
  have b1 := bounds_u32 w1
  clear w0 w1
  obtain ⟨N, rfl⟩ : ∃ N : Nat, a1 = N := ⟨a1.toNat, by omega⟩
  by_cases g0 : len0 ≤ 65536
  · by_cases g1 : a2 < 0
    · clear e0 b0
      go_enter Try.func7, Try.ntmps7
      go_wp2
      go_ret
      exact ⟨rfl, Below.refl _ _⟩
    · by_cases g2 : 77 < a2
      · clear e0 b0
        go_enter Try.func7, Try.ntmps7
        go_wp2
        go_ret
        exact ⟨rfl, Below.refl _ _⟩
      · obtain ⟨d, rfl⟩ : ∃ d : Nat, a2 = d := ⟨a2.toNat, by omega⟩
        by_cases hN : N < 10 ^ d
        · exact walk_main a0 len0 cap0 N d _ w g0 (by omega) (by omega) hN e0 b0
        · have c1 := fun w => fits_not N d w (by omega) (by omega) hN
          clear hN e0 b0
          go_enter Try.func7, Try.ntmps7
          go_wp2_with (go_at_call 17; refine (small _ _ _ _ _ _ g0).mono ?_; rintro e w' ⟨rfl, rfl⟩)
          refine (c1 _).mono ?_
          rintro e w' ⟨rfl, rfl⟩
          go_wp2
          go_ret
          exact ⟨rfl, Below.refl _ _⟩
  · clear e0 b0
    rcases (show 1048576 < len0 ∨ len0 ≤ 1048576 by omega) with h | h
    all_goals
      go_enter Try.func7, Try.ntmps7
      go_wp2
      go_ret
      exact ⟨rfl, Below.refl _ _⟩
#print axioms walk_all
end Go.Proofs.Qxb6601322a.fixed
