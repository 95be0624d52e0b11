/-
  THE CONTRACT OF 'appendDigitsOf32' (function 26) AND OF ITS SHIM (20).
-/
import Derived.Test.Qxb6601322aZeros
import Derived.RegionTactic
import Derived.ChangeAlike
import Derived.BigRegion
namespace Go.Proofs.Qxb6601322a
open Go.RowKit Go.ChangeShapes Go.WideShapes Go.ChangeAt

/-- What 'appendDigitsOf32' leaves: no old block turns; where a digit is written the row is new memory. -/
def DigitsPost (w : World) (base n d N : Nat) (f : Nat → Int) (v' : Value) (w' : World) : Prop :=
  Below w.heap.size w w' ∧ ((0 < d ∧ Own w' w.heap.size v' (n + d) (cat f n (dec N d))) ∨ (d = 0 ∧ Own w' base v' n f))

theorem zeros_pos (base n d : Nat) (v : Value) (f : Nat → Int) (w : World) (hd0 : 0 < d) (hd : d ≤ 77) (hn : n ≤ 1000000) (hown : Own w base v n f) (ht : Tight v n) :
    Calls Try.prog 27 #[v, .int .i64 d] w fun e w' => ∃ g cap, e = .returned (.slice (some ⟨g, 0, none⟩) (n + d) cap) ∧ w.heap.size ≤ g ∧ Own w' w.heap.size (.slice (some ⟨g, 0, none⟩) (n + d) cap) (n + d) (cat f n (fun _ => 48)) ∧ Below w.heap.size w w' := by
  refine (zeros_any base n d v f w hd hn hown ht).mono ?_
  rintro e w' ⟨v', rfl, hB, ⟨_, hO⟩ | ⟨h, _⟩⟩
  · rcases hO.shape with ⟨_, h⟩ | ⟨g, cap, rfl, hg, _⟩
    · omega
    · exact ⟨g, cap, rfl, hg, hO, hB⟩
  · omega
theorem zeros_nought (base n : Nat) (v : Value) (f : Nat → Int) (w : World) (hn : n ≤ 1000000) (hown : Own w base v n f) (ht : Tight v n) :
    Calls Try.prog 27 #[v, .int .i64 (0 : Nat)] w fun e w' => ∃ ao cap, e = .returned (.slice ao n cap) ∧ Own w' base (.slice ao n cap) n f ∧ Below w.heap.size w w' := by
  refine (zeros_any base n 0 v f w (by omega) hn hown ht).mono ?_
  rintro e w' ⟨v', rfl, hB, ⟨h, _⟩ | ⟨_, hO⟩⟩
  · omega
  · obtain ⟨ao, cap, rfl, _⟩ := hO.bytes
    exact ⟨ao, cap, rfl, hO, hB⟩

theorem digits_nought (base n : Nat) (v : Value) (f : Nat → Int) (w : World) (hn : n ≤ 1000000) (hown : Own w base v n f) (ht : Tight v n) :
    Calls Try.prog 26 #[v, .int .u32 0, .int .i64 0] w fun e w' => ∃ v', e = .returned v' ∧ DigitsPost w base n 0 0 f v' w' := by
  have c := zeros_nought base n v f w hn hown ht
  clear hown ht
  go_enter Try.func26, Try.ntmps26
  go_wp2_with fail
  refine c.mono ?_
  rintro e w1 ⟨ao, cap, rfl, hO, hB⟩
  clear c
  have HO : Hid (Own w1 base (.slice ao n cap) n f) := hO
  have HB : Hid (Below w.heap.size w w1) := hB
  clear hO hB
  go_wp2
  go_loop [1, 7] (fun t i => t = .int .u32 0 ∧ i = .int .i64 n) (fun _ _ => 0)
  case atStart => exact ⟨rfl, rfl⟩
  case round =>
    obtain ⟨rfl, rfl⟩ := hrel
    go_wp2
    go_ret
    exact ⟨_, rfl, HB.out, .inr ⟨rfl, HO.out⟩⟩

/-- the text 'digitPairs' -/
def DP : ByteArray := { data := #[48, 48, 48, 49, 48, 50, 48, 51, 48, 52, 48, 53, 48, 54, 48, 55, 48, 56, 48, 57, 49, 48, 49, 49, 49, 50, 49, 51, 49, 52, 49, 53, 49, 54, 49, 55, 49, 56, 49, 57, 50, 48, 50, 49, 50, 50, 50, 51, 50, 52, 50, 53, 50, 54, 50, 55, 50, 56, 50, 57, 51, 48, 51, 49, 51, 50, 51, 51, 51, 52, 51, 53, 51, 54, 51, 55, 51, 56, 51, 57, 52, 48, 52, 49, 52, 50, 52, 51, 52, 52, 52, 53, 52, 54, 52, 55, 52, 56, 52, 57, 53, 48, 53, 49, 53, 50, 53, 51, 53, 52, 53, 53, 53, 54, 53, 55, 53, 56, 53, 57, 54, 48, 54, 49, 54, 50, 54, 51, 54, 52, 54, 53, 54, 54, 54, 55, 54, 56, 54, 57, 55, 48, 55, 49, 55, 50, 55, 51, 55, 52, 55, 53, 55, 54, 55, 55, 55, 56, 55, 57, 56, 48, 56, 49, 56, 50, 56, 51, 56, 52, 56, 53, 56, 54, 56, 55, 56, 56, 56, 57, 57, 48, 57, 49, 57, 50, 57, 51, 57, 52, 57, 53, 57, 54, 57, 55, 57, 56, 57, 57] }
theorem DP_size : DP.size = 200 := by decide +kernel
theorem dp_tens : ∀ p : Fin 100, ((DP[p.val * 2]'(by have := p.isLt; rw [DP_size]; omega)).toNat : Int) = 48 + ((p.val / 10 : Nat) : Int) := by decide +kernel
theorem dp_ones : ∀ p : Fin 100, ((DP[p.val * 2 + 1]'(by have := p.isLt; rw [DP_size]; omega)).toNat : Int) = 48 + ((p.val % 10 : Nat) : Int) := by decide +kernel
theorem dp_tens_at {N d m q : Nat} (hm : m + 2 ≤ d) (hq : hd N d (m + 2) = q) (h : q % 100 * 2 < DP.size) : ((DP[q % 100 * 2]'h).toNat : Int) = dec N d m := by
  rw [dec_tens hm, hq]; exact dp_tens ⟨q % 100, by omega⟩
theorem dp_ones_at {N d m q : Nat} (hq : hd N d (m + 2) = q) (h : q % 100 * 2 + 1 < DP.size) : ((DP[q % 100 * 2 + 1]'h).toNat : Int) = dec N d (m + 1) := by
  rw [dec_ones, hq]; exact dp_ones ⟨q % 100, by omega⟩

theorem Own.drew {w : World} {base n : Nat} {v : Value} {f : Nat → Int} (h : Own w base v n f) : Own w.drew base v n f := World.ownsRow.drew h

theorem own_pair {wr : World} {B g n d cap m N : Nat} {f : Nat → Int} {x y : Int} (hx : x = dec N d m) (hy : y = dec N d (m + 1))
    (hO : Own wr B (.slice (some ⟨g, 0, none⟩) (n + d) cap) (n + d) (cat f n (part N d (m + 2)))) :
    Own ((wr.setCell ⟨g, n + (m + 2) - 2, none⟩ (.int .u8 x)).setCell ⟨g, n + (m + 2) - 2 + 1, none⟩ (.int .u8 y)).drew B (.slice (some ⟨g, 0, none⟩) (n + d) cap) (n + d) (cat f n (part N d m)) := by
  refine (((hO.stored _ x).stored _ y).drew).congr fun k hk => ?_
  rw [show n + (m + 2) - 2 + 1 = n + (m + 1) by omega, show n + (m + 2) - 2 = n + m by omega, cat_upd, cat_upd]
  refine cat_congr (m := d) (fun j hj => ?_) hk
  unfold upd part
  by_cases h1 : j = m + 1
  · rw [if_pos h1, if_neg (by omega), h1, hy]
  · by_cases h2 : j = m
    · rw [if_neg h1, if_pos h2, if_neg (by omega), h2, hx]
    · rw [if_neg h1, if_neg h2]
      by_cases h3 : j < m
      · rw [if_pos (by omega), if_pos h3]
      · rw [if_neg (by omega), if_neg h3]
theorem own_last {wr : World} {B g n d cap m N : Nat} {f : Nat → Int} {x : Int} (hm : m + 1 ≤ d) (hz : hd N d (m + 1) < 10) (hx : x = 48 + (hd N d (m + 1) : Int))
    (hO : Own wr B (.slice (some ⟨g, 0, none⟩) (n + d) cap) (n + d) (cat f n (part N d (m + 1)))) :
    Own (wr.setCell ⟨g, n + m, none⟩ (.int .u8 x)) B (.slice (some ⟨g, 0, none⟩) (n + d) cap) (n + d) (cat f n (dec N d)) := by
  refine (hO.stored _ x).congr fun k hk => ?_
  rw [cat_upd]
  refine cat_congr (m := d) (fun j hj => ?_) hk
  rw [← part_last hm hz]
  unfold upd part
  by_cases h2 : j = m
  · rw [if_pos h2, if_neg (by omega), h2, hx]
    unfold dec; omega
  · rw [if_neg h2]
    by_cases h3 : j < m
    · rw [if_pos (by omega), if_pos h3]
    · rw [if_neg (by omega), if_neg h3]

set_option maxRecDepth 20000 in
set_option maxHeartbeats 1000000 in
theorem digits_pos (base n d N : Nat) (v : Value) (f : Nat → Int) (w : World) (hd0 : 0 < d) (hd77 : d ≤ 77) (hn : n ≤ 1000000) (hN : N < 10 ^ d) (hN32 : N < 4294967296) (hown : Own w base v n f) (ht : Tight v n) :
    Calls Try.prog 26 #[v, .int .u32 N, .int .i64 d] w fun e w' => ∃ v', e = .returned v' ∧ DigitsPost w base n d N f v' w' := by
  have c := zeros_pos base n d v f w hd0 hd77 hn hown ht
  clear hown ht
  have PN : Hid (N < 10 ^ d) := hN
  clear hN
  go_enter Try.func26, Try.ntmps26
  go_wp2_with fail
  refine c.mono ?_
  rintro e w1 ⟨g, cap, rfl, hg, hO, hB⟩
  clear c
  go_wp2
  go_loopw [1, 7] (fun t i wr => ∃ m q : Nat, m ≤ d ∧ hd N d m = q ∧ t = .int .u32 q ∧ i = .int .i64 ((n + m : Nat) : Int) ∧ Own wr w.heap.size (.slice (some ⟨g, 0, none⟩) (n + d) cap) (n + d) (cat f n (part N d m)) ∧ Below w.heap.size w wr) (fun t _ _ => (intOf t).toNat)
  case atStart => exact ⟨d, N, Nat.le_refl _, hd_all N d, rfl, rfl, hO.congr (fun k hk => cat_congr (fun j hj => (part_start hj).symm) hk), hB⟩
  case round =>
    obtain ⟨m, q, hm, hq, rfl, rfl, hOr, hBr⟩ := hrel
    clear hO hB
    have hqN : q ≤ N := by rw [← hq]; exact hd_le N d m
    by_cases h10 : 10 ≤ q
    · obtain ⟨m, rfl⟩ : ∃ m', m = m' + 2 := ⟨m - 2, by have := hd_two PN.out hm (by omega); omega⟩
      have HQ : Hid (hd N d (m + 2) = q) := hq
      have HO : Hid (Own wr w.heap.size (.slice (some ⟨g, 0, none⟩) (n + d) cap) (n + d) (cat f n (part N d (m + 2)))) := hOr
      have HB : Hid (Below w.heap.size w wr) := hBr
      have k1 := hOr.cell (k := n + (m + 2) - 2) (by omega)
      have k2 := hOr.cell (k := n + (m + 2) - 2 + 1) (by omega)
      have f1 := World.ownsRow.frozenAt hOr (n + (m + 2) - 2)
      have f2 := World.ownsRow.frozenAt hOr (n + (m + 2) - 2 + 1)
      clear hq hOr hBr
      have x1 : (0 : Int) ≤ (q : Int) % 100 * 2 := by omega
      have x2 : (q : Int) % 100 * 2 < 200 := by omega
      have x3 : (0 : Int) ≤ (q : Int) % 100 * 2 + 1 := by omega
      have x4 : (q : Int) % 100 * 2 + 1 < 200 := by omega
      go_wp2
      go_region
      go_wp2
      go_roundw
      case rel => exact ⟨m, q / 100, by omega, by rw [hd_hundred hm, HQ.out], by go_num, by go_num, own_pair (dp_tens_at hm HQ.out _) (dp_ones_at HQ.out _) HO.out, ((HB.out.setCell hg _).setCell hg _).drew⟩
      case measure => simp [intOf]; omega
    · by_cases h0 : 0 < q
      · obtain ⟨m, rfl⟩ : ∃ m', m = m' + 1 := ⟨m - 1, by have := hd_one PN.out hm (by omega); omega⟩
        have HQ : Hid (hd N d (m + 1) = q) := hq
        have HO : Hid (Own wr w.heap.size (.slice (some ⟨g, 0, none⟩) (n + d) cap) (n + d) (cat f n (part N d (m + 1)))) := hOr
        have HB : Hid (Below w.heap.size w wr) := hBr
        have k1 := hOr.cell (k := n + m) (by omega)
        have f1 := World.ownsRow.frozenAt hOr (n + m)
        clear hq hOr hBr
        go_wp2
        go_ret
        exact ⟨_, rfl, HB.out.setCell hg _, .inl ⟨hd0, own_last hm (by rw [HQ.out]; omega) (by rw [HQ.out]) HO.out⟩⟩
      · obtain rfl : q = 0 := by omega
        have HO : Hid (Own wr w.heap.size (.slice (some ⟨g, 0, none⟩) (n + d) cap) (n + d) (cat f n (part N d m))) := hOr
        have HB : Hid (Below w.heap.size w wr) := hBr
        have HQ : Hid (hd N d m = 0) := hq
        clear hq hOr hBr
        go_wp2
        go_ret
        exact ⟨_, rfl, HB.out, .inl ⟨hd0, HO.out.congr fun k hk => cat_congr (m := d) (fun j hj => part_done hm HQ.out) hk⟩⟩

/-- 'appendDigitsOf32' and its shim. -/
theorem digits_any (base n d N : Nat) (v : Value) (f : Nat → Int) (w : World) (hd77 : d ≤ 77) (hn : n ≤ 1000000) (hN : N < 10 ^ d) (hN32 : N < 4294967296) (hown : Own w base v n f) (ht : Tight v n) :
    Calls Try.prog 26 #[v, .int .u32 N, .int .i64 d] w fun e w' => ∃ v', e = .returned v' ∧ DigitsPost w base n d N f v' w' := by
  by_cases h0 : d = 0
  · subst h0
    obtain rfl : N = 0 := by simpa using hN
    exact digits_nought base n v f w hn hown ht
  · exact digits_pos base n d N v f w (by omega) hd77 hn hN hN32 hown ht

theorem zzdigits_any (base n d N : Nat) (v : Value) (f : Nat → Int) (w : World) (hd77 : d ≤ 77) (hn : n ≤ 1000000) (hN : N < 10 ^ d) (hN32 : N < 4294967296) (hown : Own w base v n f) (ht : Tight v n) :
    Calls Try.prog 20 #[v, .int .u32 N, .int .i64 d] w fun e w' => ∃ v', e = .returned v' ∧ DigitsPost w base n d N f v' w' := by
  have c := digits_any base n d N v f w hd77 hn hN hN32 hown ht
  clear hown ht hN
  go_enter Try.func20, Try.ntmps20
  go_wp2_with fail
  refine c.mono ?_
  rintro e w1 ⟨v', rfl, hp⟩
  clear c
  go_wp2
  go_ret
  exact ⟨_, rfl, hp⟩
#print axioms zzdigits_any
end Go.Proofs.Qxb6601322a
