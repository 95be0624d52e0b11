/-
  OWNED ROWS OF BYTES, AND THE CONTRACT OF 'zzCopy' (function 11).
-/
import Derived.Test.Qxb6601322aPi
import Derived.OpenShut
namespace Go.Proofs.Qxb6601322a
open Go.RowKit Go.ChangeShapes Go.WideShapes Go.ChangeAt

theorem Try.info5 : (Try.prog.info? 5).map (fun i => (i.zero, i.size, i.bytes)) = some (some (.int .u8 0), 1, 1) := by kernel_rfl

/-- n bytes as a list of cells. -/
def lst (f : Nat → Int) (n : Nat) : List Value := (List.range n).map (fun k => Value.int .u8 (f k))

theorem lst_length (f : Nat → Int) (n : Nat) : (lst f n).length = n := by simp [lst]
theorem lst_get {f : Nat → Int} {n k : Nat} (h : k < n) : (lst f n)[k]? = some (.int .u8 (f k)) := by simp [lst, h]
theorem lst_congr {f g : Nat → Int} {n : Nat} (h : ∀ k, k < n → f k = g k) : lst f n = lst g n := by
  apply List.ext_getElem?
  intro k
  by_cases hk : k < n
  · rw [lst_get hk, lst_get hk, h k hk]
  · rw [List.getElem?_eq_none (by rw [lst_length]; omega), List.getElem?_eq_none (by rw [lst_length]; omega)]
/-- one byte written -/
def upd (f : Nat → Int) (j : Nat) (v : Int) : Nat → Int := fun k => if k = j then v else f k
theorem lst_set (f : Nat → Int) (n j : Nat) (v : Int) : (lst f n).set j (.int .u8 v) = lst (upd f j v) n := by
  apply List.ext_getElem?
  intro k
  by_cases hk : k < n
  · rw [List.getElem?_set, lst_get hk, lst_get hk, lst_length]
    unfold upd
    by_cases e : j = k
    · subst e; simp [hk]
    · rw [if_neg e, if_neg (fun e' => e e'.symm)]
  · rw [List.getElem?_eq_none (by rw [List.length_set, lst_length]; omega), List.getElem?_eq_none (by rw [lst_length]; omega)]
theorem lst_zero (n : Nat) : List.replicate n (Value.int .u8 0) = lst (fun _ => 0) n := by
  apply List.ext_getElem?
  intro k
  by_cases hk : k < n
  · rw [lst_get hk]; simp [hk]
  · rw [List.getElem?_eq_none (by simp; omega), List.getElem?_eq_none (by rw [lst_length]; omega)]

/-- THE SLICE VALUE v OWNS THE n BYTES f, among the blocks from 'base' on. -/
def Own (w : World) (base : Nat) (v : Value) (n : Nat) (f : Nat → Int) : Prop := w.ownsRow base 5 1 v n (lst f n)

theorem Own.congr {w : World} {base n : Nat} {v : Value} {f g : Nat → Int} (h : Own w base v n f) (e : ∀ k, k < n → f k = g k) : Own w base v n g := by
  unfold Own; rw [← lst_congr e]; exact h
theorem Own.cell {w : World} {base g n cap : Nat} {f : Nat → Int} (h : Own w base (.slice (some ⟨g, 0, none⟩) n cap) n f) {k : Nat} (hk : k < n) : w.cell? ⟨g, k, none⟩ = some (.int .u8 (f k)) := by
  rw [World.ownsRow.cellAt h k (by omega), lst_get hk]
theorem Own.shape {w : World} {base n : Nat} {v : Value} {f : Nat → Int} (h : Own w base v n f) :
    (v = .slice none 0 0 ∧ n = 0) ∨ ∃ g cap, v = .slice (some ⟨g, 0, none⟩) n cap ∧ base ≤ g ∧ g < w.heap.size ∧ n ≤ cap := by
  rcases h.2 with h | ⟨g, cap, cur, hv, hb, hg, hc, _⟩
  · exact .inl h
  · exact .inr ⟨g, cap, hv, hb, (Array.getElem?_eq_some_iff.1 hg).1, hc⟩
/-- ... as an address, for a contract's argument -/
theorem Own.bytes {w : World} {base n : Nat} {v : Value} {f : Nat → Int} (h : Own w base v n f) :
    ∃ ao cap, v = .slice ao n cap ∧ Bytes w ao n f := by
  rcases h.shape with ⟨rfl, rfl⟩ | ⟨g, cap, rfl, _, _⟩
  · exact ⟨none, 0, rfl, .inl rfl⟩
  · exact ⟨_, cap, rfl, .inr ⟨g, 0, rfl, fun k hk => by rw [Nat.zero_add]; exact h.cell hk⟩⟩
/-- A later world that keeps the old blocks keeps the row. -/
theorem Own.below {w w' : World} {base n : Nat} {v : Value} {f : Nat → Int} (h : Own w base v n f) (hb : Below w.heap.size w w') : Own w' base v n f := by
  refine ⟨h.1, ?_⟩
  rcases h.2 with h2 | ⟨g, cap, cur, hv, hg, hh, r⟩
  · exact .inl h2
  · exact .inr ⟨g, cap, cur, hv, hg, by rw [hb.block g (Array.getElem?_eq_some_iff.1 hh).1]; exact hh, r⟩
theorem Own.base_le {w : World} {base base' n : Nat} {v : Value} {f : Nat → Int} (h : Own w base v n f) (hb : base' ≤ base) : Own w base' v n f := by
  refine ⟨h.1, ?_⟩
  rcases h.2 with h2 | ⟨g, cap, cur, hv, hg, r⟩
  · exact .inl h2
  · exact .inr ⟨g, cap, cur, hv, Nat.le_trans hb hg, r⟩
theorem Bytes.below {w w' : World} {ao : Option Addr} {n : Nat} {f : Nat → Int} (h : Bytes w ao n f) (hb : Below w.heap.size w w') : Bytes w' ao n f := by
  rcases h with h | ⟨b, off, e, hc⟩
  · exact .inl h
  · refine .inr ⟨b, off, e, fun k hk => ?_⟩
    have h1 := hc k hk
    rw [hb.cell (p := ⟨b, off + k, none⟩) (World.block_lt_of_cell? w _ h1)]
    exact h1
theorem Own.stored {w : World} {base g n cap : Nat} {f : Nat → Int} (h : Own w base (.slice (some ⟨g, 0, none⟩) n cap) n f) (j : Nat) (v : Int) :
    Own (w.setCell ⟨g, j, none⟩ (.int .u8 v)) base (.slice (some ⟨g, 0, none⟩) n cap) n (upd f j v) := by
  unfold Own; rw [← lst_set]; exact (World.ownsRow.stored h j _).1

/-- the first k bytes of f, then noughts -/
def upto (f : Nat → Int) (k : Nat) : Nat → Int := fun j => if j < k then f j else 0
theorem upto_succ (f : Nat → Int) (k : Nat) : upd (upto f k) k (f k) = upto f (k + 1) := by
  funext j
  unfold upd upto
  by_cases h : j = k
  · subst h; simp
  · by_cases h2 : j < k
    · rw [if_neg h, if_pos h2, if_pos (by omega)]
    · rw [if_neg h, if_neg h2, if_neg (by omega)]

set_option maxHeartbeats 400000 in
theorem copy_some (a : Addr) (n cap : Nat) (f : Nat → Int) (w : World) (hn : n ≤ 1000000) (h : Bytes w (some a) n f) :
    Calls Try.prog 11 #[.slice (some a) n cap] w fun e w' => ∃ v, e = .returned v ∧ Own w' w.heap.size v n f ∧ Below w.heap.size w w' := by
  obtain ⟨i0, hi, hz0, hz1, hz2⟩ := info_parts Try.info5
  have hnil := fun w => Lib.run_eql_slice_nil (P := Try.prog) w 22 5 (some a) n cap 0 0 Try.underlying22
  have H : Hid (Bytes w (some a) n f) := h
  clear h
  go_enter Try.func11, Try.ntmps11
  go_wp2_with (at_make; refine wpList_make_full _ rfl _ _ 22 rfl w.heap.size 5 i0 (.int .u8 0) 1 Try.underlying22 hi hz0 hz1 .i64 .i64 _ _ n rfl rfl rfl rfl (by rw [hz2]; omega) (by unfold maxLen; omega) (Nat.le_refl _) ?_; intro w0 hown0 hgrow0)
  have hO : Own w0 w.heap.size (.slice (some ⟨w.heap.size, 0, none⟩) n n) n (upto f 0) := by
    have e : (madeCells (Value.int IntKind.u8 0).cells (n * 1)).toList = lst (upto f 0) n := by
      rw [Nat.mul_one]
      exact (toList_madeCells_one (.int .u8 0) n).trans ((lst_zero n).trans (lst_congr fun k _ => by simp [upto]))
    unfold Own; rw [← e]; exact hown0
  have hB : Below w.heap.size w w0 := (Below.refl _ _).grown hgrow0 (Nat.le_refl _) (fun k hk => by simp at hk)
  clear hown0 hgrow0 hi hz0 hz1 hz2 hnil
  go_loopw [4] (fun t wr => ∃ k : Nat, k ≤ n ∧ t = .int .i64 k ∧ Own wr w.heap.size (.slice (some ⟨w.heap.size, 0, none⟩) n n) n (upto f k) ∧ Below w.heap.size w wr) (fun t _ => n - (intOf t).toNat)
  case atStart => exact ⟨0, Nat.zero_le _, rfl, hO, hB⟩
  case round =>
    obtain ⟨k, hk, rfl, hown, hbel⟩ := hrel
    clear hO hB
    by_cases hlt : k < n
    · rcases H with e | ⟨b, off, ea, hc⟩
      · omega
      · obtain rfl := Option.some.inj ea
        have hck := (hbel.cell (p := ⟨b, off + k, none⟩) (World.block_lt_of_cell? w _ (hc k hlt))).trans (hc k hlt)
        have hst := hown.cell hlt
        have hfz := World.ownsRow.frozenAt hown k
        have HO : Hid (Own wr w.heap.size (.slice (some ⟨w.heap.size, 0, none⟩) n n) n (upto f k)) := hown
        have HB : Hid (Below w.heap.size w wr) := hbel
        clear hown hbel hc
        go_wp2
        go_roundw
        case rel => exact ⟨k + 1, by omega, by go_num, by rw [← upto_succ]; exact HO.out.stored k (f k), HB.out.setCell (Nat.le_refl _) _⟩
        case measure => simp [intOf]; omega
    · go_wp2
      go_ret
      exact ⟨_, rfl, hown.congr (fun j hj => by unfold upto; rw [if_pos (by omega)]), hbel⟩

theorem copy_nil (f : Nat → Int) (w : World) :
    Calls Try.prog 11 #[.slice none 0 0] w fun e w' => ∃ v, e = .returned v ∧ Own w' w.heap.size v 0 f ∧ Below w.heap.size w w' := by
  have hnil := fun w => Lib.run_eql_slice_nil (P := Try.prog) w 22 5 none 0 0 0 0 Try.underlying22
  go_enter Try.func11, Try.ntmps11
  go_wp2
  go_ret
  exact ⟨_, rfl, World.ownsRow_nil _ _ _ _, Below.refl _ _⟩

/-- 'zzCopy': a row of the call's own that holds the bytes. -/
theorem copy_any (ao : Option Addr) (n cap : Nat) (f : Nat → Int) (w : World) (hn : n ≤ 1000000) (hao : ao = none → n = 0 ∧ cap = 0) (h : Bytes w ao n f) :
    Calls Try.prog 11 #[.slice ao n cap] w fun e w' => ∃ v, e = .returned v ∧ Own w' w.heap.size v n f ∧ Below w.heap.size w w' := by
  cases ao with
  | none => obtain ⟨rfl, rfl⟩ := hao rfl; exact copy_nil f w
  | some a => exact copy_some a n cap f w hn h

/-- The same, the value's shape told. -/
theorem copy_out (ao : Option Addr) (n cap : Nat) (f : Nat → Int) (w : World) (hn : n ≤ 1000000) (hao : ao = none → n = 0 ∧ cap = 0) (h : Bytes w ao n f) :
    Calls Try.prog 11 #[.slice ao n cap] w fun e w' => ∃ ao' cap', e = .returned (.slice ao' n cap') ∧ (ao' = none → n = 0 ∧ cap' = 0) ∧ Own w' w.heap.size (.slice ao' n cap') n f ∧ Bytes w' ao' n f ∧ Below w.heap.size w w' := by
  refine (copy_any ao n cap f w hn hao h).mono ?_
  rintro e w' ⟨v, rfl, ho, hb⟩
  rcases ho.shape with ⟨rfl, rfl⟩ | ⟨g, cap', rfl, _⟩
  · exact ⟨none, 0, rfl, fun _ => ⟨rfl, rfl⟩, ho, .inl rfl, hb⟩
  · exact ⟨_, cap', rfl, fun e => (by cases e), ho, .inr ⟨g, 0, rfl, fun k hk => by rw [Nat.zero_add]; exact ho.cell hk⟩, hb⟩

/-- WHAT THE WALK IS TOLD OF A SLICE OF INTEGERS THAT CAME IN (the frame's own words). -/
def IsRow (k : IntKind) (w : World) (a : Option Addr) (len cap : Nat) (zs : List Int) : Prop :=
  (a = none ∧ len = 0 ∧ cap = 0 ∧ zs = []) ∨
  ∃ x, a = some x ∧ len ≤ cap ∧ cap ≤ maxLen ∧ zs.length = cap ∧ (∀ i, i < zs.length → w.cell? (x.add i) = some (.int k (zs.getD i 0))) ∧ ∀ n ∈ zs, (Lit.int k n).wf = true

theorem IsRow.bytes {w : World} {a : Option Addr} {len cap : Nat} {zs : List Int} (h : IsRow .u8 w a len cap zs) :
    len ≤ 9223372036854775807 ∧ (a = none → len = 0 ∧ cap = 0) ∧ Bytes w a len (fun k => zs.getD k 0) := by
  rcases h with ⟨rfl, rfl, rfl, rfl⟩ | ⟨x, rfl, h1, h2, h3, h4, _⟩
  · exact ⟨by omega, fun _ => ⟨rfl, rfl⟩, .inl rfl⟩
  · refine ⟨by unfold maxLen at h2; omega, fun e => (by cases e), ?_⟩
    by_cases e : len = 0
    · exact .inl e
    · obtain ⟨b, off, rfl, hc⟩ := ints_at h4 (by omega)
      exact .inr ⟨b, off, rfl, fun k hk => hc k (by omega)⟩

theorem ret_bool {a b : Bool} (h : a = b) : Ending.returned (.bool a) = .returned (.bool b) := by rw [h]
#print axioms copy_out
end Go.Proofs.Qxb6601322a
