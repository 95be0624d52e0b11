/-
  'zzCopy' AND 'appendDigitsOf32' ONCE MORE, in the words that the two laws over b want.
-/
import Derived.Test.Qxb6601322aFits
namespace Go.Proofs.Qxb6601322a
open Go.RowKit Go.ChangeShapes Go.WideShapes Go.ChangeAt

set_option maxHeartbeats 400000 in
/-- 'zzCopy' leaves no spare room. -/
theorem copy_some_tight (a : Addr) (n cap : Nat) (f : Nat → Int) (w : World) (hn : n ≤ 1000000) (h : Bytes w (some a) n f) :
    Calls Try.prog 11 #[.slice (some a) n cap] w fun e w' => e = .returned (.slice (some ⟨w.heap.size, 0, none⟩) n n) ∧ Own w' w.heap.size (.slice (some ⟨w.heap.size, 0, none⟩) n n) n f ∧ Below w.heap.size w w' := by
  obtain ⟨i0, hi, hz0, hz1, hz2⟩ := info_parts Try.info5
  have hnil := fun w => Lib.run_eql_slice_nil (P := Try.prog) w 22 5 (some a) n cap 0 0 Try.underlying22
  have H : Hid (Bytes w (some a) n f) := h
  clear h
  go_enter Try.func11, Try.ntmps11
  go_wp2_with (at_make; refine wpList_make_full _ rfl _ _ 22 rfl w.heap.size 5 i0 (.int .u8 0) 1 Try.underlying22 hi hz0 hz1 .i64 .i64 _ _ n rfl rfl rfl rfl (by rw [hz2]; omega) (by unfold maxLen; omega) (Nat.le_refl _) ?_; intro w0 hown0 hgrow0)
  have hO : Own w0 w.heap.size (.slice (some ⟨w.heap.size, 0, none⟩) n n) n (upto f 0) := by
    have e : (madeCells (Value.int IntKind.u8 0).cells (n * 1)).toList = lst (upto f 0) n := by
      rw [Nat.mul_one]
      exact (toList_madeCells_one (.int .u8 0) n).trans ((lst_zero n).trans (lst_congr fun k _ => by simp [upto]))
    unfold Own; rw [← e]; exact hown0
  have hB : Below w.heap.size w w0 := (Below.refl _ _).grown hgrow0 (Nat.le_refl _) (fun k hk => by simp at hk)
  clear hown0 hgrow0 hi hz0 hz1 hz2 hnil
  go_loopw [4] (fun t wr => ∃ k : Nat, k ≤ n ∧ t = .int .i64 k ∧ Own wr w.heap.size (.slice (some ⟨w.heap.size, 0, none⟩) n n) n (upto f k) ∧ Below w.heap.size w wr) (fun t _ => n - (intOf t).toNat)
  case atStart => exact ⟨0, Nat.zero_le _, rfl, hO, hB⟩
  case round =>
    obtain ⟨k, hk, rfl, hown, hbel⟩ := hrel
    clear hO hB
    by_cases hlt : k < n
    · rcases H with e | ⟨b, off, ea, hc⟩
      · omega
      · obtain rfl := Option.some.inj ea
        have hck := (hbel.cell (p := ⟨b, off + k, none⟩) (World.block_lt_of_cell? w _ (hc k hlt))).trans (hc k hlt)
        have hst := hown.cell hlt
        have hfz := World.ownsRow.frozenAt hown k
        have HO : Hid (Own wr w.heap.size (.slice (some ⟨w.heap.size, 0, none⟩) n n) n (upto f k)) := hown
        have HB : Hid (Below w.heap.size w wr) := hbel
        clear hown hbel hc
        go_wp2
        go_roundw
        case rel => exact ⟨k + 1, by omega, by go_num, by rw [← upto_succ]; exact HO.out.stored k (f k), HB.out.setCell (Nat.le_refl _) _⟩
        case measure => simp [intOf]; omega
    · go_wp2
      go_ret
      exact ⟨rfl, hown.congr (fun j hj => by unfold upto; rw [if_pos (by omega)]), hbel⟩

theorem copy_nil_tight (f : Nat → Int) (w : World) :
    Calls Try.prog 11 #[.slice none 0 0] w fun e w' => e = .returned (.slice none 0 0) ∧ Own w' w.heap.size (.slice none 0 0) 0 f ∧ Below w.heap.size w w' := by
  have hnil := fun w => Lib.run_eql_slice_nil (P := Try.prog) w 22 5 none 0 0 0 0 Try.underlying22
  go_enter Try.func11, Try.ntmps11
  go_wp2
  go_ret
  exact ⟨rfl, World.ownsRow_nil _ _ _ _, Below.refl _ _⟩

theorem copy_tight (ao : Option Addr) (n cap : Nat) (f : Nat → Int) (w : World) (hn : n ≤ 1000000) (hao : ao = none → n = 0 ∧ cap = 0) (h : Bytes w ao n f) :
    Calls Try.prog 11 #[.slice ao n cap] w fun e w' => ∃ ao' cap', e = .returned (.slice ao' n cap') ∧ Tight (.slice ao' n cap') n ∧ Own w' w.heap.size (.slice ao' n cap') n f ∧ Below w.heap.size w w' := by
  cases ao with
  | none =>
    obtain ⟨rfl, rfl⟩ := hao rfl
    refine (copy_nil_tight f w).mono ?_
    rintro e w' ⟨rfl, ho, hb⟩
    exact ⟨none, 0, rfl, .inl rfl, ho, hb⟩
  | some a =>
    refine (copy_some_tight a n cap f w hn h).mono ?_
    rintro e w' ⟨rfl, ho, hb⟩
    exact ⟨_, _, rfl, .inr ⟨_, rfl⟩, ho, hb⟩

/-- the digits appended: the value's shape and its bytes -/
theorem digits_out (base n d N : Nat) (v : Value) (f : Nat → Int) (w : World) (hd77 : d ≤ 77) (hn : n ≤ 1000000) (hN : N < 10 ^ d) (hN32 : N < 4294967296) (hown : Own w base v n f) (ht : Tight v n) :
    Calls Try.prog 20 #[v, .int .u32 N, .int .i64 d] w fun e w' => ∃ ao cap, e = .returned (.slice ao (n + d) cap) ∧ Bytes w' ao (n + d) (cat f n (dec N d)) ∧ Below w.heap.size w w' := by
  refine (zzdigits_any base n d N v f w hd77 hn hN hN32 hown ht).mono ?_
  rintro e w' ⟨v', rfl, hB, ⟨_, hO⟩ | ⟨rfl, hO⟩⟩
  · obtain ⟨ao, cap, rfl, hb⟩ := hO.bytes
    exact ⟨ao, cap, rfl, hb, hB⟩
  · have hO' : Own w' base v' (n + 0) (cat f n (dec N 0)) := hO.congr fun k hk => (cat_lt hk).symm
    obtain ⟨ao, cap, rfl, hb⟩ := hO'.bytes
    exact ⟨ao, cap, rfl, hb, hB⟩
#print axioms digits_out
end Go.Proofs.Qxb6601322a
