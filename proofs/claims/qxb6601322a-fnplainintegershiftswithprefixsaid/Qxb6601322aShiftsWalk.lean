/-
  THE WALK OF 'FnPlainIntegerShiftsWithPrefix' (function 4).
-/
import Derived.Test.Qxb6601322aCopy
namespace Go.Proofs.Qxb6601322a.shifts
open Go.ChangeShapes Go.WideShapes Go.ChangeAt Go.RowKit

/-- f's first p bytes, then g -/
def cat (f : Nat → Int) (p : Nat) (g : Nat → Int) : Nat → Int := fun j => if j < p then f j else g (j - p)
theorem cat_lt {f g : Nat → Int} {p k : Nat} (h : k < p) : f k = cat f p g k := by unfold cat; rw [if_pos h]
theorem cat_ge (f g : Nat → Int) (p k : Nat) : g k = cat f p g (p + k) := by unfold cat; rw [if_neg (by omega), show p + k - p = k by omega]

theorem small (a0 : Option Addr) (len0 cap0 : Nat) (a1 : Option Addr) (len1 cap1 : Nat) (a2 : Int) (w : World) (h0 : len0 ≤ 65536) (h1 : len1 ≤ 65536) :
    Calls Try.prog 14 #[.slice a0 len0 cap0, .slice a1 len1 cap1, .int .i64 a2] w fun e w' => e = .returned (.bool true) ∧ w' = w := by
  go_enter Try.func14, Try.ntmps14
  go_wp2
  go_ret
  exact ⟨rfl, rfl⟩

/-- the end: the two answers against one another -/
theorem fin {f0 f1 : Nat → Int} {p n i : Nat} {r1 r2 : Int} (h1 : PI f1 n i r1) (h2 : PI (cat f0 p f1) (p + n) (p + i) r2) : r2 = if r1 = -1 then -1 else r1 + p :=
  PI_uniq h2 (PI_shift (fun k _ => (cat_ge f0 f1 p k).symm) h1)

set_option maxHeartbeats 1000000 in
theorem walk_main (a0 : Option Addr) (len0 cap0 : Nat) (a1 : Option Addr) (len1 cap1 i : Nat) (f0 f1 : Nat → Int) (w : World) (h0 : len0 ≤ 65536) (h1 : len1 ≤ 65536) (hi : i ≤ len1)
    (e0 : a0 = none → len0 = 0 ∧ cap0 = 0) (e1 : a1 = none → len1 = 0 ∧ cap1 = 0) (b0 : Bytes w a0 len0 f0) (b1 : Bytes w a1 len1 f1) :
    Calls Try.prog 4 #[.slice a0 len0 cap0, .slice a1 len1 cap1, .int .i64 i] w fun e w' => e = .returned (.bool true) ∧ Below w.heap.size w w' := by
  obtain ⟨i0, hi0, hz0, hz1, hz2⟩ := info_parts Try.info5
  have c0 := copy_out a0 len0 cap0 f0 w (by omega) e0 b0
  have c1 := fun w1 (hb : Below w.heap.size w w1) => copy_out a1 len1 cap1 f1 w1 (by omega) e1 (b1.below hb)
  clear e0 e1 b0 b1
  go_enter Try.func4, Try.ntmps4
  go_wp2_with (go_at_call 14; refine (small _ _ _ _ _ _ _ _ h0 h1).mono ?_; rintro e w' ⟨rfl, hw⟩; obtain rfl := hw.symm; clear hw)
  refine c0.mono ?_
  rintro e w1 ⟨p0, q0, rfl, -, -, hB0, hW1⟩
  clear c0
  go_wp2_with fail
  refine (c1 w1 hW1).mono ?_
  rintro e w2 ⟨p1, q1, rfl, -, -, hB1, hW2⟩
  clear c1
  have B0 : Hid (Bytes w2 p0 len0 f0) := hB0.below hW2
  have B1 : Hid (Bytes w2 p1 len1 f1) := hB1
  have W2 : Hid (Below w.heap.size w w2) := hW1.trans (hW2.mono hW1.size)
  clear hB0 hB1 hW1 hW2
  go_wp2_with (at_make; refine wpList_make_full _ rfl _ _ 22 rfl w2.heap.size 5 i0 (.int .u8 0) 1 Try.underlying22 hi0 hz0 hz1 .i64 .i64 _ _ (len0 + len1) rfl rfl (by omega) (by omega) (by rw [hz2]; omega) (by unfold maxLen; omega) (Nat.le_refl _) ?_; intro w3 hown0 hgrow0)
  have hO : Own w3 w2.heap.size (.slice (some ⟨w2.heap.size, 0, none⟩) (len0 + len1) (len0 + len1)) (len0 + len1) (upto (cat f0 len0 f1) 0) := by
    have e : (madeCells (Value.int IntKind.u8 0).cells ((len0 + len1) * 1)).toList = lst (upto (cat f0 len0 f1) 0) (len0 + len1) := by
      rw [Nat.mul_one]
      exact (toList_madeCells_one (.int .u8 0) (len0 + len1)).trans ((lst_zero _).trans (lst_congr fun k _ => by simp [upto]))
    unfold Own; rw [← e]; exact hown0
  have hB : Below w2.heap.size w2 w3 := (Below.refl _ _).grown hgrow0 (Nat.le_refl _) (fun k hk => by simp at hk)
  clear hown0 hgrow0 hi0 hz0 hz1 hz2
  go_loopw [8] (fun t wr => ∃ k : Nat, k ≤ len0 ∧ t = .int .i64 k ∧ Own wr w2.heap.size (.slice (some ⟨w2.heap.size, 0, none⟩) (len0 + len1) (len0 + len1)) (len0 + len1) (upto (cat f0 len0 f1) k) ∧ Below w2.heap.size w2 wr) (fun t _ => len0 - (intOf t).toNat)
  case atStart => exact ⟨0, Nat.zero_le _, rfl, hO, hB⟩
  case round =>
    obtain ⟨k, hk, rfl, hown, hbel⟩ := hrel
    clear hO hB
    by_cases hlt : k < len0
    · rcases B0.out with e | ⟨b, off, rfl, hc⟩
      · omega
      · have hck := (hbel.cell (p := ⟨b, off + k, none⟩) (World.block_lt_of_cell? w2 _ (hc k hlt))).trans (hc k hlt)
        have hst := hown.cell (k := k) (by omega)
        have hfz := World.ownsRow.frozenAt hown k
        have HO : Hid (Own wr w2.heap.size (.slice (some ⟨w2.heap.size, 0, none⟩) (len0 + len1) (len0 + len1)) (len0 + len1) (upto (cat f0 len0 f1) k)) := hown
        have HB : Hid (Below w2.heap.size w2 wr) := hbel
        clear hown hbel hc
        go_wp2
        go_roundw
        case rel => exact ⟨k + 1, by omega, by go_num, by rw [← upto_succ, ← cat_lt hlt]; exact HO.out.stored k (f0 k), HB.out.setCell (Nat.le_refl _) _⟩
        case measure => simp [intOf]; omega
    · obtain rfl : len0 = k := by omega
      clear hlt hk
      go_wp2
      go_loopw [9] (fun t wr => ∃ k : Nat, k ≤ len1 ∧ t = .int .i64 k ∧ Own wr w2.heap.size (.slice (some ⟨w2.heap.size, 0, none⟩) (len0 + len1) (len0 + len1)) (len0 + len1) (upto (cat f0 len0 f1) (len0 + k)) ∧ Below w2.heap.size w2 wr) (fun t _ => len1 - (intOf t).toNat)
      case atStart => exact ⟨0, Nat.zero_le _, rfl, hown, hbel⟩
      case round =>
        clear hown hbel
        obtain ⟨k, hk, rfl, hown, hbel⟩ := hrel
        by_cases hlt : k < len1
        · rcases B1.out with e | ⟨b, off, rfl, hc⟩
          · omega
          · have hck := (hbel.cell (p := ⟨b, off + k, none⟩) (World.block_lt_of_cell? w2 _ (hc k hlt))).trans (hc k hlt)
            have hst := hown.cell (k := len0 + k) (by omega)
            have hfz := World.ownsRow.frozenAt hown (len0 + k)
            have HO := hown.stored (len0 + k) (f1 k)
            have HO' : Hid (Own (wr.setCell ⟨w2.heap.size, len0 + k, none⟩ (.int .u8 (f1 k))) w2.heap.size (.slice (some ⟨w2.heap.size, 0, none⟩) (len0 + len1) (len0 + len1)) (len0 + len1) (upto (cat f0 len0 f1) (len0 + k + 1))) := by
              rw [← upto_succ, ← cat_ge f0 f1 len0 k]; exact HO
            have HB : Hid (Below w2.heap.size w2 wr) := hbel
            clear hown hbel hc HO
            go_wp2
            go_roundw
            case rel => exact ⟨k + 1, by omega, by go_num, HO'.out, HB.out.setCell (Nat.le_refl _) _⟩
            case measure => simp [intOf]; omega
        · obtain rfl : len1 = k := by omega
          clear hlt hk
          have G1 : Bytes wr p1 len1 f1 := B1.out.below hbel
          have G2 : Bytes wr (some ⟨w2.heap.size, 0, none⟩) (len0 + len1) (cat f0 len0 f1) :=
            .inr ⟨_, 0, rfl, fun k hk => by rw [Nat.zero_add, hown.cell hk]; unfold upto; rw [if_pos hk]⟩
          have d1 := zzpi_any p1 len1 q1 i f1 wr hi (by omega) G1
          have d2 := zzpi_any (some ⟨w2.heap.size, 0, none⟩) (len0 + len1) (len0 + len1) (len0 + i) (cat f0 len0 f1) wr (by omega) (by omega) G2
          have WB : Hid (Below w.heap.size w wr) := W2.out.trans (hbel.mono W2.out.size)
          clear G1 G2 hown hbel
          go_wp2_with fail
          refine d1.mono ?_
          rintro e w' ⟨r1, rfl, hr1, hw⟩
          obtain rfl := hw.symm
          clear hw
          go_wp2_with fail
          rw [show ((len0 : Int) + (i : Int)) = ((len0 + i : Nat) : Int) by omega]
          refine d2.mono ?_
          rintro e w' ⟨r2, rfl, hr2, hw⟩
          obtain rfl := hw.symm
          clear hw d1 d2
          have hf := fin hr1 hr2
          have hbd := PI_bd hr1
          clear hr1 hr2
          by_cases hm : r1 = -1
          · rw [if_pos hm] at hf
            subst hf hm
            go_wp2
            go_ret
            exact ⟨rfl, WB.out⟩
          · rw [if_neg hm] at hf
            subst hf
            have hm' : (r1 == -1) = false := by simpa using hm
            go_wp2
            go_ret
            exact ⟨ret_bool (by simp), WB.out⟩

theorem walk_all (a0 : Option Addr) (len0 cap0 : Nat) (z0 : List Int) (a1 : Option Addr) (len1 cap1 : Nat) (z1 : List Int) (a2 : Int) (w : World) (w0 : IsRow .u8 w a0 len0 cap0 z0) (w1 : IsRow .u8 w a1 len1 cap1 z1) :
    Calls Try.prog 4 #[.slice a0 len0 cap0, .slice a1 len1 cap1, .int .i64 a2] w fun e w' => e = .returned (.bool true) ∧ Below w.heap.size w w' := by
  obtain ⟨l0, e0, b0⟩ := w0.bytes
  obtain ⟨l1, e1, b1⟩ := w1.bytes
  clear w0 w1
  by_cases g0 : len0 ≤ 65536
  · by_cases g1 : len1 ≤ 65536
    · by_cases g2 : a2 < 0
      · clear e0 e1 b0 b1
        go_enter Try.func4, Try.ntmps4
        go_wp2
        go_ret
        exact ⟨rfl, Below.refl _ _⟩
      · by_cases g3 : (len1 : Int) < a2
        · clear e0 e1 b0 b1
          go_enter Try.func4, Try.ntmps4
          go_wp2
          go_ret
          exact ⟨rfl, Below.refl _ _⟩
        · obtain ⟨i, rfl⟩ : ∃ i : Nat, a2 = i := ⟨a2.toNat, by omega⟩
          exact walk_main a0 len0 cap0 a1 len1 cap1 i _ _ w g0 g1 (by omega) e0 e1 b0 b1
    · clear e0 e1 b0 b1
      rcases (show 1048576 < len1 ∨ (len1 ≤ 1048576 ∧ 1048576 < len0 + len1) ∨ (len1 ≤ 1048576 ∧ len0 + len1 ≤ 1048576) by omega) with h | ⟨h, h'⟩ | ⟨h, h'⟩
      all_goals
        go_enter Try.func4, Try.ntmps4
        go_wp2
        go_ret
        exact ⟨rfl, Below.refl _ _⟩
  · clear e0 e1 b0 b1
    rcases (show 1048576 < len0 ∨ (len0 ≤ 1048576 ∧ 1048576 < len1) ∨ (len0 ≤ 1048576 ∧ len1 ≤ 1048576 ∧ 1048576 < len0 + len1) ∨ (len0 ≤ 1048576 ∧ len1 ≤ 1048576 ∧ len0 + len1 ≤ 1048576) by omega) with h | ⟨h, h'⟩ | ⟨h, h', h''⟩ | ⟨h, h', h''⟩
    all_goals
      go_enter Try.func4, Try.ntmps4
      go_wp2
      go_ret
      exact ⟨rfl, Below.refl _ _⟩
#print axioms walk_all
end Go.Proofs.Qxb6601322a.shifts
