/-
  THE ROW THAT IS BUILT: appends onto it, as steps of the walk; THE CONTRACTS OF appendBlankRun (21) AND siteBlanks (18).
-/
import Derived.Test.Qxb6001548aRead
import Derived.Lib.AppendStr
import Derived.Laws.BitsAllLaws
namespace Go.Proofs.Qxb6001548a
open Go.RowKit Go.ChangeShapes Go.WideShapes Go.ChangeAt

theorem Try.info5 : (Try.prog.info? 5).map (fun i => (i.zero, i.size, i.bytes)) = some (some (.int .u8 0), 1, 1) := by kernel_rfl

/-- numbers as cells -/
def cells (l : List Int) : List Value := l.map (Value.int .u8)
theorem cells_length (l : List Int) : (cells l).length = l.length := by simp [cells]
theorem cells_append (l s : List Int) : cells (l ++ s) = cells l ++ cells s := by simp [cells]
theorem cells_one (l : List Int) : ∀ u ∈ cells l, u.oneCell' = true := by
  intro u hu
  simp only [cells, List.mem_map] at hu
  obtain ⟨x, _, rfl⟩ := hu
  rfl

/-- THE ROW AS IT STANDS: the value v owns the bytes l, at most N of them, among the blocks from 'base' on; below 'base' the world is as w0 was. -/
def Cur (w0 w : World) (base : Nat) (v : Value) (l : List Int) (N : Nat) : Prop :=
  w.ownsRow base 5 1 v l.length (cells l) ∧ l.length ≤ N ∧ base ≤ w.heap.size ∧ Below base w0 w

theorem Cur.alloc {w0 w : World} {base N : Nat} {v : Value} {l : List Int} (h : Cur w0 w base v l N) (o : Obj) : Cur w0 (w.alloc o) base v l N :=
  ⟨h.1.alloc o, h.2.1, by simp; exact Nat.le_succ_of_le h.2.2.1, h.2.2.2.alloc h.2.2.1 o⟩

/-- the bytes of a slice that is appended -/
def Src (w : World) (ao : Option Addr) (m cp : Nat) (s : List Int) : Prop :=
  s.length = m ∧ (ao = none → m = 0 ∧ cp = 0) ∧ (m = 0 ∨ ∃ b off, ao = some ⟨b, off, none⟩ ∧ ∀ k, k < m → w.cell? ⟨b, off + k, none⟩ = some (.int .u8 (s.getD k 0)))

theorem run_app {w0 w : World} {base N : Nat} {v : Value} {l : List Int} (h : Cur w0 w base v l N) (ty : TypeId) (ao : Option Addr) (m cp : Nat) (s : List Int) (hs : Src w ao m cp s) (hN : N + m ≤ 100000000) :
    ∃ v' w', (Builtin.append_ #[22, 22] ty #[v, .slice ao m cp]).run Try.prog w = .ok v' w' ∧ Cur w0 w' base v' (l ++ s) (N + m) := by
  obtain ⟨i0, hi, hz0, hz1, hz2⟩ := info_parts Try.info5
  obtain ⟨hl, hnone, hc⟩ := hs
  obtain ⟨ho, hle, hb, hbel⟩ := h
  cases ao with
  | none =>
    obtain ⟨rfl, rfl⟩ := hnone rfl
    obtain rfl : s = [] := List.eq_nil_of_length_eq_zero hl
    exact ⟨v, w, run_append_owned_none (P := Try.prog) w base 22 ty 5 i0 1 Try.underlying22 hi v l.length (cells l) ho, by rw [List.append_nil]; exact ⟨ho, hle, hb, hbel⟩⟩
  | some a =>
    have hnews : ∀ j u, (cells s)[j]? = some u → w.cell? (a.add j) = some u := by
      intro j u hj
      have hjm : j < m := by
        rcases Nat.lt_or_ge j m with h | h
        · exact h
        · rw [List.getElem?_eq_none (by rw [cells_length]; omega)] at hj; cases hj
      rcases hc with h0 | ⟨b, off, e, hc⟩
      · omega
      · obtain rfl := Option.some.inj e
        rw [add_plain, hc j hjm]
        rw [← hj]
        simp [cells, List.getD, hl, hjm]
    obtain ⟨v', w', hr, ho', hg, _⟩ := run_append_own (P := Try.prog) w base 22 ty 5 i0 (.int .u8 0) 1 1 Try.underlying22 hi hz0 hz1 hz2 rfl (by decide) v l.length (cells l) ho a m cp (cells s) (by rw [cells_length, hl]; omega) hnews (cells_one s) (by unfold maxLen; omega) (by omega) hb
    refine ⟨v', w', hr, ?_, by rw [List.length_append]; omega, Nat.le_trans hb hg.size, hbel.grown hg hb (fun k hk => (ho.lt k hk).1)⟩
    rw [List.length_append, cells_append, hl]; exact ho'

theorem strCells_btl (s : ByteArray) : Lib.strCells s = cells (btl s) := by
  unfold Lib.strCells cells btl
  apply List.ext_getElem?
  intro k
  by_cases hk : k < s.size
  · have hk' : k < s.data.toList.length := by simpa using hk
    simp only [List.getElem?_map, List.map_map, List.getElem?_range hk, Option.map_some, Function.comp, List.getElem?_eq_getElem hk']
    rw [← bt_at hk]
    rfl
  · rw [List.getElem?_eq_none (by simpa using hk), List.getElem?_eq_none (by simpa using hk)]

theorem run_app_str {w0 w : World} {base N : Nat} {v : Value} {l : List Int} (h : Cur w0 w base v l N) (ty : TypeId) (s : ByteArray) (hN : N + s.size ≤ 100000000) :
    ∃ v' w', (Builtin.append_ #[22, 9] ty #[v, .string s]).run Try.prog w = .ok v' w' ∧ Cur w0 w' base v' (l ++ btl s) (N + s.size) := by
  obtain ⟨i0, hi, hz0, hz1, hz2⟩ := info_parts Try.info5
  obtain ⟨ho, hle, hb, hbel⟩ := h
  obtain ⟨v', w', hr, ho', hg, _⟩ := Lib.run_append_own_string (P := Try.prog) w base 22 9 ty 5 i0 Try.underlying22 Try.underlying9 hi hz0 hz1 hz2 v l.length (cells l) ho s (by unfold maxLen; omega) (by omega) hb
  refine ⟨v', w', hr, ?_, by rw [List.length_append, btl_length]; omega, Nat.le_trans hb hg.size, hbel.grown hg hb (fun k hk => (ho.lt k hk).1)⟩
  rw [List.length_append, cells_append, btl_length, ← strCells_btl]; exact ho'

/-- THE OPERATION, for the walk: its run is known. -/
theorem wpList_ran {ops : Array Oper} {rest : List Oper} {o : Oper} {a : Act} {Q : Exit → Act → World → Prop} (w : World) (hgd : o.guard = none) (sl x : Operand) (t u : TypeId)
    (ho : o.op = .call { callee := .builtin .append, args := #[sl, x], argTypes := #[t, u] }) (v y : Value) (hs : a.eval sl = v) (hx : a.eval x = y)
    {R : Value → World → Prop} (hr : ∃ v' w', (Builtin.append_ #[t, u] o.type #[v, y]).run Try.prog w = .ok v' w' ∧ R v' w')
    (h : ∀ v' w', R v' w' → wpList Try.prog ops Q rest (a.put o.dst v') w') : wpList Try.prog ops Q (o :: rest) a w := by
  refine wpList_plain hgd fun K hK => ?_
  obtain ⟨v', w', hr, hR⟩ := hr
  unfold Oper.wp execOp
  simp only [ho, resolve, invoke, builtin, Sem.run_bind, Sem.run_pure, Result.andThen_ok, List.map_toArray, List.map_cons, List.map_nil, hs, hx, hr]
  exact hK _ _ (h v' w' hR)

/-- one byte appended: it lies in a new block of its own -/
theorem wpList_one {ops : Array Oper} {rest : List Oper} {o : Oper} {a : Act} {Q : Exit → Act → World → Prop} {w0 w : World} {base N : Nat} {v : Value} {l : List Int} (c : Int) (hgd : o.guard = none) (sl x : Operand)
    (ho : o.op = .call { callee := .builtin .append, args := #[sl, x], argTypes := #[22, 22] }) (hs : a.eval sl = v) (hx : a.eval x = .slice (some ⟨w.heap.size, 0, none⟩) 1 1) (hcur : Cur w0 w base v l N) (hN : N + 1 ≤ 100000000)
    (h : ∀ v' w', Cur w0 w' base v' (l ++ [c]) (N + 1) → wpList Try.prog ops Q rest (a.put o.dst v') w') : wpList Try.prog ops Q (o :: rest) a (w.alloc (.cells #[.int .u8 c] 5)) :=
  wpList_ran _ hgd sl x 22 22 ho v _ hs hx (run_app (hcur.alloc _) o.type _ 1 1 [c] ⟨rfl, fun e => (by cases e), .inr ⟨_, 0, rfl, fun k hk => by
    obtain rfl : k = 0 := by omega
    simp⟩⟩ hN) h
/-- two bytes -/
theorem wpList_two {ops : Array Oper} {rest : List Oper} {o : Oper} {a : Act} {Q : Exit → Act → World → Prop} {w0 w : World} {base N : Nat} {v : Value} {l : List Int} (c d : Int) (hgd : o.guard = none) (sl x : Operand)
    (ho : o.op = .call { callee := .builtin .append, args := #[sl, x], argTypes := #[22, 22] }) (hs : a.eval sl = v) (hx : a.eval x = .slice (some ⟨w.heap.size, 0, none⟩) 2 2) (hcur : Cur w0 w base v l N) (hN : N + 2 ≤ 100000000)
    (h : ∀ v' w', Cur w0 w' base v' (l ++ [c, d]) (N + 2) → wpList Try.prog ops Q rest (a.put o.dst v') w') : wpList Try.prog ops Q (o :: rest) a (w.alloc (.cells #[.int .u8 c, .int .u8 d] 5)) :=
  wpList_ran _ hgd sl x 22 22 ho v _ hs hx (run_app (hcur.alloc _) o.type _ 2 2 [c, d] ⟨rfl, fun e => (by cases e), .inr ⟨_, 0, rfl, fun k hk => by
    match k, hk with
    | 0, _ => simp
    | 1, _ => simp⟩⟩ hN) h

/-- the value behind an append that is not empty -/
theorem Cur.shape {w0 w : World} {base N : Nat} {v : Value} {l : List Int} (h : Cur w0 w base v l N) (hl : 0 < l.length) : ∃ g cap, v = .slice (some ⟨g, 0, none⟩) l.length cap ∧ base ≤ g := by
  rcases h.1.2 with ⟨_, h0⟩ | ⟨g, cap, cur, hv, hb, _⟩
  · omega
  · exact ⟨g, cap, hv, hb⟩
theorem Cur.le {w0 w : World} {base N M : Nat} {v : Value} {l : List Int} (h : Cur w0 w base v l N) (hM : N ≤ M) : Cur w0 w base v l M := ⟨h.1, Nat.le_trans h.2.1 hM, h.2.2⟩

/-- one byte appended, the value's shape told -/
theorem wpList_one_shape {ops : Array Oper} {rest : List Oper} {o : Oper} {a : Act} {Q : Exit → Act → World → Prop} {w0 w : World} {base N : Nat} {v : Value} {l : List Int} (c : Int) (hgd : o.guard = none) (sl x : Operand)
    (ho : o.op = .call { callee := .builtin .append, args := #[sl, x], argTypes := #[22, 22] }) (hs : a.eval sl = v) (hx : a.eval x = .slice (some ⟨w.heap.size, 0, none⟩) 1 1) (hcur : Cur w0 w base v l N) (hN : N + 1 ≤ 100000000)
    (h : ∀ g cap n w', Cur w0 w' base (.slice (some ⟨g, 0, none⟩) n cap) (l ++ [c]) (N + 1) → n ≤ N + 1 → Hid ((l ++ [c]).length = n) → wpList Try.prog ops Q rest (a.put o.dst (.slice (some ⟨g, 0, none⟩) n cap)) w') :
    wpList Try.prog ops Q (o :: rest) a (w.alloc (.cells #[.int .u8 c] 5)) := by
  refine wpList_one c hgd sl x ho hs hx hcur hN fun v' w' hc => ?_
  obtain ⟨g, cap, rfl, _⟩ := hc.shape (by simp)
  exact h g cap _ w' hc hc.2.1 rfl
theorem wpList_two_shape {ops : Array Oper} {rest : List Oper} {o : Oper} {a : Act} {Q : Exit → Act → World → Prop} {w0 w : World} {base N : Nat} {v : Value} {l : List Int} (c d : Int) (hgd : o.guard = none) (sl x : Operand)
    (ho : o.op = .call { callee := .builtin .append, args := #[sl, x], argTypes := #[22, 22] }) (hs : a.eval sl = v) (hx : a.eval x = .slice (some ⟨w.heap.size, 0, none⟩) 2 2) (hcur : Cur w0 w base v l N) (hN : N + 2 ≤ 100000000)
    (h : ∀ g cap n w', Cur w0 w' base (.slice (some ⟨g, 0, none⟩) n cap) (l ++ [c, d]) (N + 2) → n ≤ N + 2 → Hid ((l ++ [c, d]).length = n) → wpList Try.prog ops Q rest (a.put o.dst (.slice (some ⟨g, 0, none⟩) n cap)) w') :
    wpList Try.prog ops Q (o :: rest) a (w.alloc (.cells #[.int .u8 c, .int .u8 d] 5)) := by
  refine wpList_two c d hgd sl x ho hs hx hcur hN fun v' w' hc => ?_
  obtain ⟨g, cap, rfl, _⟩ := hc.shape (by simp)
  exact h g cap _ w' hc hc.2.1 rfl

/-- blanks appended: how many of them, and what -/
def Blk (w0 : World) (base : Nat) (l : List Int) (N lo hi : Nat) (e : Ending) (w' : World) : Prop :=
  ∃ v' s, e = .returned v' ∧ lo ≤ s.length ∧ s.length ≤ hi ∧ (∀ x ∈ s, bl x) ∧ Cur w0 w' base v' (l ++ s) (N + hi)

theorem bl_snoc {s : List Int} {x : Int} (h : ∀ y ∈ s, bl y) (hx : bl x) : ∀ y ∈ s ++ [x], bl y := by
  intro y hy
  rcases List.mem_append.1 hy with h' | h'
  · exact h y h'
  · simp at h'; subst h'; exact hx

set_option maxHeartbeats 400000 in
theorem run_blanks (w0 w : World) (base N m : Nat) (v : Value) (l : List Int) (c : Int) (hm : m ≤ 4) (_hc : 0 ≤ c ∧ c ≤ 255) (hN : N ≤ 50000000) (h : Cur w0 w base v l N) :
    Calls Try.prog 21 #[v, .int .i64 m, .int .u8 c] w (Blk w0 base l N m m) := by
  go_enter Try.func21, Try.ntmps21
  go_wp2
  go_loopw [0, 7] (fun v i wr => ∃ (k : Nat) (s : List Int), k ≤ m ∧ s.length = k ∧ i = .int .i64 k ∧ (∀ x ∈ s, bl x) ∧ Cur w0 wr base v (l ++ s) (N + k)) (fun _ i _ => m - (intOf i).toNat)
  case atStart => exact ⟨0, [], Nat.zero_le _, rfl, rfl, (fun x hx => by cases hx), by rw [List.append_nil]; exact h⟩
  case round =>
    obtain ⟨k, s, hk, hl, rfl, hs, hcur⟩ := hrel
    clear h
    have HS : Hid (∀ x ∈ s, bl x) := hs
    clear hs
    by_cases hlt : k < m
    · go_wp2_with (first | (at_builtin; refine wpList_one 9 rfl _ _ rfl rfl rfl hcur (by omega) ?_; intro v' w' hcur') | (at_builtin; refine wpList_one 32 rfl _ _ rfl rfl rfl hcur (by omega) ?_; intro v' w' hcur'))
      · go_roundw
        case rel => exact ⟨k + 1, s ++ [9], by omega, by simp [hl], by go_num, bl_snoc HS.out (.inr rfl), by rw [← List.append_assoc]; exact hcur'⟩
        case measure => simp [intOf]; omega
      · go_roundw
        case rel => exact ⟨k + 1, s ++ [32], by omega, by simp [hl], by go_num, bl_snoc HS.out (.inl rfl), by rw [← List.append_assoc]; exact hcur'⟩
        case measure => simp [intOf]; omega
    · obtain rfl : m = k := by omega
      go_wp2
      go_ret
      exact ⟨_, s, rfl, by omega, by omega, HS.out, hcur⟩

theorem and_three {c : Int} (h : 0 ≤ c ∧ c ≤ 255) : ∃ q : Nat, q ≤ 3 ∧ bits .and .u8 c 3 = (q : Int) := by
  refine ⟨c.toNat &&& 3, Nat.and_le_right, ?_⟩
  rw [u8_and c 3 h.1 (by omega) (by omega) (by omega)]
  rfl

theorem blk_wide {w0 : World} {base N lo m hi : Nat} {l : List Int} {e : Ending} {w' : World} (h1 : lo ≤ m) (h2 : m ≤ hi) (h : Blk w0 base l N m m e w') : Blk w0 base l N lo hi e w' := by
  obtain ⟨v', s, rfl, a, b, c, d, f, g, k⟩ := h
  exact ⟨v', s, rfl, by omega, by omega, c, d, by omega, g, k⟩

set_option maxHeartbeats 400000 in
theorem site_any (w0 w : World) (base N lo site nk ck : Nat) (ab : Option Addr) (v : Value) (l : List Int) (fb : Nat → Int) (hlo : lo ≤ 1) (hsite : site ≤ 1000000) (_hnk : nk ≤ 100000000) (hN : N ≤ 40000000) (h : Cur w0 w base v l N)
    (hk : nk = 0 ∨ ∃ b off, ab = some ⟨b, off, none⟩ ∧ ∀ k, k < nk → w.cell? ⟨b, off + k, none⟩ = some (.int .u8 (fb k))) (hf : ∀ k, k < nk → 0 ≤ fb k ∧ fb k ≤ 255) :
    Calls Try.prog 18 #[v, .slice ab nk ck, .int .i64 site, .int .i64 lo] w (Blk w0 base l N lo (lo + 3)) := by
  by_cases hs : site < nk
  · rcases hk with e | ⟨b, off, rfl, hc⟩
    · omega
    have hcs := hc site hs
    have hr := hf site hs
    obtain ⟨q, hq, heq⟩ := and_three hr
    generalize fb site = c at hcs hr heq
    have cr := fun x (hx : 0 ≤ x ∧ x ≤ 255) => run_blanks w0 w base N (lo + q) v l x (by omega) hx (by omega) h
    clear hc hf h
    go_enter Try.func18, Try.ntmps18
    go_wp2_with fail
    rw [show ((lo : Int) + (q : Int)) = ((lo + q : Nat) : Int) by omega]
    refine (cr _ (by omega)).mono ?_
    intro e w' hp
    replace hp := blk_wide (lo := lo) (hi := lo + 3) (by omega) (by omega) hp
    obtain ⟨v', s, rfl, h1, h2, h3, h4⟩ := hp
    clear cr
    go_wp2
    go_ret
    exact ⟨v', s, rfl, h1, h2, h3, h4⟩
  · obtain ⟨q, hq, heq⟩ := and_three (c := 0) (by omega)
    have cr := fun x (hx : 0 ≤ x ∧ x ≤ 255) => run_blanks w0 w base N (lo + q) v l x (by omega) hx (by omega) h
    clear hk hf h
    go_enter Try.func18, Try.ntmps18
    go_wp2_with fail
    rw [show ((lo : Int) + (q : Int)) = ((lo + q : Nat) : Int) by omega]
    refine (cr _ (by omega)).mono ?_
    intro e w' hp
    replace hp := blk_wide (lo := lo) (hi := lo + 3) (by omega) (by omega) hp
    obtain ⟨v', s, rfl, h1, h2, h3, h4⟩ := hp
    clear cr
    go_wp2
    go_ret
    exact ⟨v', s, rfl, h1, h2, h3, h4⟩
#print axioms site_any
end Go.Proofs.Qxb6001548a
