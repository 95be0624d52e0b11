/-
  THE CONTRACT OF 'appendZeros' (function 27): onto nil, or onto a row of the call's own without spare room.
-/
import Derived.Test.Qxb6601322aCopy
import Derived.Test.Qxb6601322aDecPlain
import Derived.Lib.AppendStr
import Derived.Lib.Strings
namespace Go.Proofs.Qxb6601322a
open Go.RowKit Go.ChangeShapes Go.WideShapes Go.ChangeAt

/-- f's first p bytes, then g -/
def cat (f : Nat → Int) (p : Nat) (g : Nat → Int) : Nat → Int := fun j => if j < p then f j else g (j - p)
theorem cat_lt {f g : Nat → Int} {p k : Nat} (h : k < p) : cat f p g k = f k := by unfold cat; rw [if_pos h]
theorem cat_ge (f g : Nat → Int) (p k : Nat) : cat f p g (p + k) = g k := by unfold cat; rw [if_neg (by omega), show p + k - p = k by omega]
theorem cat_congr {f g h : Nat → Int} {p m k : Nat} (e : ∀ j, j < m → g j = h j) (hk : k < p + m) : cat f p g k = cat f p h k := by
  unfold cat
  by_cases h : k < p
  · rw [if_pos h, if_pos h]
  · rw [if_neg h, if_neg h]; exact e _ (by omega)
theorem cat_upd (f g : Nat → Int) (p k : Nat) (v : Int) : upd (cat f p g) (p + k) v = cat f p (upd g k v) := by
  funext j
  unfold upd cat
  by_cases h : j < p
  · rw [if_neg (by omega), if_pos h, if_pos h]
  · by_cases e : j = p + k
    · rw [if_pos e, if_neg h]; show v = if j - p = k then v else g (j - p); rw [if_pos (by omega)]
    · rw [if_neg e, if_neg h, if_neg h]; show g (j - p) = if j - p = k then v else g (j - p); rw [if_neg (by omega)]
theorem lst_append (f g : Nat → Int) (n m : Nat) : lst f n ++ lst g m = lst (cat f n g) (n + m) := by
  apply List.ext_getElem?
  intro k
  by_cases hk : k < n
  · rw [List.getElem?_append_left (by rw [lst_length]; exact hk), lst_get hk, lst_get (by omega), cat_lt hk]
  · rw [List.getElem?_append_right (by rw [lst_length]; omega), lst_length]
    by_cases hk' : k < n + m
    · rw [lst_get (by omega), lst_get hk']
      unfold cat
      rw [if_neg hk]
    · rw [List.getElem?_eq_none (by rw [lst_length]; omega), List.getElem?_eq_none (by rw [lst_length]; omega)]

theorem extract_size {z : ByteArray} {d : Nat} (hz : z.data.toList = List.replicate 77 48) (hd : d ≤ 77) : (z.extract 0 d).size = d := by
  have e : (z.extract 0 d).size = (z.extract 0 d).data.toList.length := by simp
  rw [e, Lib.extract_data, hz]; simp; omega
theorem extract_cells {z : ByteArray} {d : Nat} (hz : z.data.toList = List.replicate 77 48) (hd : d ≤ 77) : Lib.strCells (z.extract 0 d) = lst (fun _ => 48) d := by
  unfold Lib.strCells
  rw [Lib.extract_data, hz]
  apply List.ext_getElem?
  intro k
  by_cases hk : k < d
  · rw [lst_get hk, List.drop_zero, List.take_replicate, List.map_replicate, List.getElem?_replicate, if_pos (by omega)]; rfl
  · rw [List.getElem?_eq_none (by simp; omega), List.getElem?_eq_none (by rw [lst_length]; omega)]

/-- nil, or no spare room -/
def Tight (v : Value) (n : Nat) : Prop := v = .slice none 0 0 ∨ ∃ g, v = .slice (some ⟨g, 0, none⟩) n n

theorem run_zeros (w : World) (base n d : Nat) (v : Value) (f : Nat → Int) (z : ByteArray) (ty : TypeId) (hz : z.data.toList = List.replicate 77 48) (hd : d ≤ 77) (hn : n ≤ 1000000)
    (hown : Own w base v n f) (ht : Tight v n) :
    ∃ v' w', (Builtin.append_ #[22, 9] ty #[v, .string (z.extract 0 d)]).run Try.prog w = .ok v' w' ∧ Below w.heap.size w w' ∧
      ((0 < d ∧ Own w' w.heap.size v' (n + d) (cat f n (fun _ => 48))) ∨ (d = 0 ∧ Own w' base v' n f)) := by
  obtain ⟨i0, hi, hz0, hz1, hz2⟩ := info_parts Try.info5
  have hsz := extract_size hz hd
  have hcs := extract_cells hz hd
  have app : ∀ base v', (hO : Own w base v' n f) → base ≤ w.heap.size → _ := fun base v' hO hb =>
    Lib.run_append_own_string (P := Try.prog) w base 22 9 ty 5 i0 Try.underlying22 Try.underlying9 hi hz0 hz1 hz2 v' n (lst f n) hO (z.extract 0 d) (by rw [hsz]; unfold maxLen; omega) (by rw [hsz]; omega) hb
  rcases ht with rfl | ⟨g, rfl⟩
  · have hn0 : n = 0 := by
      rcases hown.shape with ⟨_, h⟩ | ⟨g, cap, h, _⟩
      · exact h
      · simp at h
    subst hn0
    obtain ⟨v', w', hr, ho, hg, hnil⟩ := app w.heap.size (.slice none 0 0) ⟨by simp [lst], .inl ⟨rfl, rfl⟩⟩ (Nat.le_refl _)
    rw [hsz, hcs, lst_append] at ho
    refine ⟨v', w', hr, (Below.refl _ _).grown hg (Nat.le_refl _) (fun k hk => by simp [Value.ownBlock] at hk), ?_⟩
    by_cases h0 : d = 0
    · subst h0
      refine .inr ⟨rfl, ?_⟩
      have : v' = .slice none 0 0 := hnil.2 ⟨rfl, hsz⟩
      rw [this]
      exact ⟨by simp [lst], .inl ⟨rfl, rfl⟩⟩
    · exact .inl ⟨by omega, ho⟩
  · by_cases h0 : d = 0
    · subst h0
      rcases hown.2 with ⟨h, _⟩ | ⟨g', cap, cur, h, hbg, hg, hnc, hcm, hcs', htake⟩
      · simp at h
      · simp only [Value.slice.injEq, Option.some.injEq, Addr.mk.injEq, and_true, true_and] at h
        obtain ⟨rfl, rfl⟩ := h
        have hr := Lib.run_append_room_string (P := Try.prog) w 22 9 ty 5 i0 Try.underlying22 Try.underlying9 hi hz1 g n n cur hg (z.extract 0 0) (by rw [hsz]; omega) (by rw [hsz]; omega)
        rw [hsz, hcs] at hr
        have e : (cur.toList.take n ++ lst (fun _ => 48) 0 ++ cur.toList.drop (n + 0)).toArray = cur := by
          apply Array.ext'
          simp [lst]
        rw [e] at hr
        have hb : Below w.heap.size w (w.setRow g cur) := ⟨rfl, rfl, rfl, by simp, fun k hk => by
          by_cases hkg : k = g
          · subst hkg
            rw [setRow_heap w k cur cur 5 (0, 0) hg, hg]
          · exact setRow_other w g k cur hkg⟩
        exact ⟨_, _, hr, hb, .inr ⟨rfl, hown.below hb⟩⟩
    · have holds : ∀ j u, (lst f n)[j]? = some u → w.cell? ((⟨g, 0, none⟩ : Addr).add j) = some u := World.ownsRow.cells hown (g := g) rfl
      have hr := Lib.run_append_grow_string (P := Try.prog) w 22 9 ty 5 i0 (.int .u8 0) Try.underlying22 Try.underlying9 hi hz0 ⟨g, 0, none⟩ n n (lst f n) (by rw [hz1, lst_length]; omega) holds (z.extract 0 d)
        (by rw [hsz]; omega) (by rw [hsz]; omega) (by rw [hz2, hsz]; exact growslice_fits (by omega) (by omega))
      rw [hsz, hcs] at hr
      refine ⟨_, _, hr, ((Below.refl _ _).drew).alloc (Nat.le_refl _) _, .inl ⟨by omega, ?_⟩⟩
      unfold Own
      rw [← lst_append]
      refine ⟨by rw [List.length_append, lst_length, lst_length]; omega, .inr ⟨w.heap.size, _, _, rfl, Nat.le_refl _, heap_alloc_new w.drew _, grownCap_ge _ _ _ _, grownCap_le_maxLen _ _ _ _ (by unfold maxLen; omega), ?_, ?_⟩⟩
      · have hge := grownCap_ge w (n + d) n 5
        have e1 : (Value.int IntKind.u8 0).cells.size = 1 := rfl
        simp only [Array.size_append, List.size_toArray, size_zeroCells, e1, lst_length]
        omega
      · simp only [Array.toList_append]
        rw [List.take_append_of_le_length (by simp [lst_length]), List.take_of_length_le (by simp [lst_length])]

/-- THE OPERATION, for the walk: its run is known. -/
theorem wpList_append_ran {ops : Array Oper} {rest : List Oper} {o : Oper} {a : Act} {Q : Exit → Act → World → Prop} (w : World) (hgd : o.guard = none) (sl x : Operand)
    (ho : o.op = .call { callee := .builtin .append, args := #[sl, x], argTypes := #[22, 9] }) (v : Value) (s : ByteArray) (hs : a.eval sl = v) (hx : a.eval x = .string s)
    {R : Value → World → Prop} (hr : ∃ v' w', (Builtin.append_ #[22, 9] o.type #[v, .string s]).run Try.prog w = .ok v' w' ∧ R v' w')
    (h : ∀ v' w', R v' w' → wpList Try.prog ops Q rest (a.put o.dst v') w') : wpList Try.prog ops Q (o :: rest) a w := by
  refine wpList_plain hgd fun K hK => ?_
  obtain ⟨v', w', hr, hR⟩ := hr
  unfold Oper.wp execOp
  simp only [ho, resolve, invoke, builtin, Sem.run_bind, Sem.run_pure, Result.andThen_ok, List.map_toArray, List.map_cons, List.map_nil, hs, hx, hr]
  exact hK _ _ (h v' w' hR)

/-- What 'appendZeros' leaves. -/
def ZerosPost (w : World) (base n d : Nat) (f : Nat → Int) (v' : Value) (w' : World) : Prop :=
  Below w.heap.size w w' ∧ ((0 < d ∧ Own w' w.heap.size v' (n + d) (cat f n (fun _ => 48))) ∨ (d = 0 ∧ Own w' base v' n f))

theorem zeros_any (base n d : Nat) (v : Value) (f : Nat → Int) (w : World) (hd : d ≤ 77) (hn : n ≤ 1000000) (hown : Own w base v n f) (ht : Tight v n) :
    Calls Try.prog 27 #[v, .int .i64 d] w fun e w' => ∃ v', e = .returned v' ∧ ZerosPost w base n d f v' w' := by
  have hr := fun z ty hz => run_zeros w base n d v f z ty hz hd hn hown ht
  clear hown ht
  go_enter Try.func27, Try.ntmps27
  go_wp2_with (at_builtin; refine wpList_append_ran _ rfl _ _ rfl v _ rfl rfl (hr _ _ rfl) ?_; intro v' w' hR)
  go_ret
  exact ⟨_, rfl, hR⟩
#print axioms zeros_any
end Go.Proofs.Qxb6601322a
