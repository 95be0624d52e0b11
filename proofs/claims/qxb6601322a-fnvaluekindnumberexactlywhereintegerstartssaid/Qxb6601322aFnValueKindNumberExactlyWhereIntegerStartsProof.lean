import Derived.Test.Qxb6601322aRows
import Derived.WalkKit
import Derived.ProofKit
import Derived.OpenShut
import Derived.ShutString
import Derived.Test.Qxb6601322aPi
namespace Go.Proofs.Qxb6601322a.fnValueKindNumberExactlyWhereIntegerStarts
open Go.ChangeShapes Go.WideShapes Go.ChangeAt Go.RowKit
open Go.ChangeMaps (open_string shut_string)
set_option linter.unusedVariables false      -- a walk need not use every 'w<i>' (that an integer argument fits its kind)

theorem own : ownKnob Try.prog.godebug = none := by kernel_rfl

/-! ### STEP 1: THE WALK: the Go text returns true. 'Grown w w'': the world has at most new blocks (Derived/RowKit3.lean). Part the cases AHEAD of 'go_enter' where a test parts the walk; take each callee by a contract of your own. -/
/-! ### THE PLAIN LAW -/
theorem ret_bool {a b : Bool} (h : a = b) : Ending.returned (.bool a) = .returned (.bool b) := by rw [h]
theorem num_yes {a0 r : Int} (h : a0 = 45 ∨ 48 ≤ a0 ∧ a0 ≤ 57) (hr : PI (fun k => if k = 0 then a0 else 48) 2 0 r) : (r != -1) = true := by
  have : r ≠ -1 := by
    rcases hr with ⟨_, e, c⟩ | ⟨n, c⟩ <;> rcases c with ⟨x, rfl⟩ | ⟨_, _, rfl⟩ | ⟨_, _, _, j, _, _, rfl, _⟩
    · exact absurd ⟨by omega, by simp [dg]⟩ x
    · omega
    · omega
    · rcases h with h | h
      · exact absurd ⟨by omega, by simpa using h⟩ n
      · exact absurd ⟨by omega, by simpa [dg] using h⟩ x
    · omega
    · omega
  simpa using this
theorem num_no {a0 r : Int} (h : ¬ (a0 = 45 ∨ 48 ≤ a0 ∧ a0 ≤ 57)) (hr : PI (fun k => if k = 0 then a0 else 48) 2 0 r) : (!(r != -1)) = true := by
  have : r = -1 := by
    rcases hr with ⟨_, e, c⟩ | ⟨n, c⟩
    · simp at e; omega
    · rcases c with ⟨x, rfl⟩ | ⟨_, e, rfl⟩ | ⟨_, e, _, j, _, _, rfl, _⟩
      · rfl
      · simp at e; omega
      · simp [dg] at e; omega
  simp [this]

theorem walk (a0 : Int) (w0 : (Lit.int .u8 a0).wf = true) (w : World) :
    Calls Try.prog 6 #[.int .u8 a0] w fun e w' => e = .returned (.bool true) ∧ Grown w w' := by
  have hb := bounds_u8 w0
  have hP : ∀ cap, Calls Try.prog 13 #[.slice (some ⟨w.heap.size, 0, none⟩) 2 cap, .int .i64 0] (w.alloc (.cells #[.int .u8 a0, .int .u8 48] 5)) fun e w' => ∃ r, e = .returned (.int .i64 r) ∧ PI (fun k => if k = 0 then a0 else 48) 2 0 r ∧ w' = (w.alloc (.cells #[.int .u8 a0, .int .u8 48] 5)) := fun cap =>
    zzpi_any (some ⟨w.heap.size, 0, none⟩) 2 cap 0 (fun k => if k = 0 then a0 else 48) _ (by omega) (by omega) (.inr ⟨_, _, rfl, fun k hk => by
      match k, hk with
      | 0, _ => simp
      | 1, _ => simp⟩)
  rcases (show a0 = 45 ∨ (48 ≤ a0 ∧ a0 ≤ 57) ∨ a0 = 91 ∨ a0 = 34 ∨ a0 = 116 ∨ a0 = 102 ∨ a0 = 110 ∨ (¬ (a0 = 45 ∨ 48 ≤ a0 ∧ a0 ≤ 57) ∧ a0 ≠ 91 ∧ a0 ≠ 34 ∧ a0 ≠ 116 ∧ a0 ≠ 102 ∧ a0 ≠ 110) by omega) with h | h | h | h | h | h | h | h
  · subst h
    go_enter Try.func6, Try.ntmps6
    go_wp2_with (first | (go_at_call 13; refine (hP _).mono ?_; rintro e w' ⟨r, rfl, hr, rfl⟩) | go_in)
    go_ret
    exact ⟨by first | exact ret_bool (num_yes (by omega) hr) | exact ret_bool (num_no (by omega) hr), by repeat (first | exact Grown.refl _ | apply Grown.drew | apply Grown.alloc)⟩
  · obtain ⟨h1, h2⟩ := h
    go_enter Try.func6, Try.ntmps6
    go_wp2_with (first | (go_at_call 13; refine (hP _).mono ?_; rintro e w' ⟨r, rfl, hr, rfl⟩) | go_in)
    go_ret
    exact ⟨by first | exact ret_bool (num_yes (by omega) hr) | exact ret_bool (num_no (by omega) hr), by repeat (first | exact Grown.refl _ | apply Grown.drew | apply Grown.alloc)⟩
  · subst h
    go_enter Try.func6, Try.ntmps6
    go_wp2_with (first | (go_at_call 13; refine (hP _).mono ?_; rintro e w' ⟨r, rfl, hr, rfl⟩) | go_in)
    go_ret
    exact ⟨by first | exact ret_bool (num_yes (by omega) hr) | exact ret_bool (num_no (by omega) hr), by repeat (first | exact Grown.refl _ | apply Grown.drew | apply Grown.alloc)⟩
  · subst h
    go_enter Try.func6, Try.ntmps6
    go_wp2_with (first | (go_at_call 13; refine (hP _).mono ?_; rintro e w' ⟨r, rfl, hr, rfl⟩) | go_in)
    go_ret
    exact ⟨by first | exact ret_bool (num_yes (by omega) hr) | exact ret_bool (num_no (by omega) hr), by repeat (first | exact Grown.refl _ | apply Grown.drew | apply Grown.alloc)⟩
  · subst h
    go_enter Try.func6, Try.ntmps6
    go_wp2_with (first | (go_at_call 13; refine (hP _).mono ?_; rintro e w' ⟨r, rfl, hr, rfl⟩) | go_in)
    go_ret
    exact ⟨by first | exact ret_bool (num_yes (by omega) hr) | exact ret_bool (num_no (by omega) hr), by repeat (first | exact Grown.refl _ | apply Grown.drew | apply Grown.alloc)⟩
  · subst h
    go_enter Try.func6, Try.ntmps6
    go_wp2_with (first | (go_at_call 13; refine (hP _).mono ?_; rintro e w' ⟨r, rfl, hr, rfl⟩) | go_in)
    go_ret
    exact ⟨by first | exact ret_bool (num_yes (by omega) hr) | exact ret_bool (num_no (by omega) hr), by repeat (first | exact Grown.refl _ | apply Grown.drew | apply Grown.alloc)⟩
  · subst h
    go_enter Try.func6, Try.ntmps6
    go_wp2_with (first | (go_at_call 13; refine (hP _).mono ?_; rintro e w' ⟨r, rfl, hr, rfl⟩) | go_in)
    go_ret
    exact ⟨by first | exact ret_bool (num_yes (by omega) hr) | exact ret_bool (num_no (by omega) hr), by repeat (first | exact Grown.refl _ | apply Grown.drew | apply Grown.alloc)⟩
  · obtain ⟨h0, h1, h2, h3, h4, h5⟩ := h
    have g1 : (a0 == 91) = false := by simpa using h1
    have g2 : (a0 == 34) = false := by simpa using h2
    have g3 : (a0 == 116) = false := by simpa using h3
    have g4 : (a0 == 102) = false := by simpa using h4
    have g5 : (a0 == 110) = false := by simpa using h5
    have g6 : (a0 == 45) = false := by simp; omega
    have N : Hid (¬ (a0 = 45 ∨ 48 ≤ a0 ∧ a0 ≤ 57)) := h0
    clear h1 h2 h3 h4 h5 h0
    rcases (show a0 < 48 ∨ 57 < a0 by have := N.out; omega) with h | h
    · go_enter Try.func6, Try.ntmps6
      go_wp2_with (first | (go_at_call 13; refine (hP _).mono ?_; rintro e w' ⟨r, rfl, hr, rfl⟩) | go_in)
      go_ret
      exact ⟨ret_bool (num_no N.out hr), by repeat (first | exact Grown.refl _ | apply Grown.drew | apply Grown.alloc)⟩
    · go_enter Try.func6, Try.ntmps6
      go_wp2_with (first | (go_at_call 13; refine (hP _).mono ?_; rintro e w' ⟨r, rfl, hr, rfl⟩) | go_in)
      go_ret
      exact ⟨ret_bool (num_no N.out hr), by repeat (first | exact Grown.refl _ | apply Grown.drew | apply Grown.alloc)⟩

/-! ### THE ROW's STEP: WRITTEN OUT: LEAVE IT -/
set_option maxRecDepth 100000 in
theorem lifted (os : Os) (started : os.Started) (H : Type) (enc : TypeId × Value → H) :
    ReturnsInHanded {} Try.checked os 6 .any (Rows.fnValueKindNumberExactlyWhereIntegerStartsSpec.pre6 enc Try.prog Try.f6 Rows.fnValueKindNumberExactlyWhereIntegerStartsRow.domain false) (Rows.fnValueKindNumberExactlyWhereIntegerStartsSpec.post enc Try.prog Try.f6 false true false false) := by
  refine returnsInHanded_of_change (C := Try.checked) own started (by kernel_rfl) Try.func6
    (ChangeSpec.witness6 (enc := enc) (C := Try.checked) false ⟨#[], #[.int .u8 0], []⟩ 8 (by kernel_rfl) (by kernel_rfl) (by kernel_rfl) (by kernel_rfl)) ?_
  intro W base args ds gs before hval0 hW hcnd _
  have hval : ∀ (j : Nat) t v, Try.f6.params[j]? = some t → args[j]? = some v → Value.okWide Try.prog W .any base t v := hval0
  have hW' := hW
  obtain ⟨p, q, hA0, hV, rfl, hfz, hnd⟩ := hW
  have hA : DataW.TrodAll enc Try.prog W 0 (fun _ => true) true Try.f6.params.toList args.toList ds p := hA0
  rw [Try.params6] at hA hval
  obtain ⟨v0, vs0, d0, ds0, p0, q0, hargs, rfl, rfl, h0, r0⟩ := trodAll_cons hA
  obtain ⟨rfl, rfl, rfl⟩ := trodAll_nil r0
  obtain rfl : args = #[v0] := by cases args; simp_all
  obtain ⟨rfl, rfl⟩ := trodVars_none hV
  obtain ⟨a0, rfl, rfl, rfl, w0⟩ := open_int Try.underlying5 (hval 0 5 v0 rfl rfl) h0
  clear hA0 hval0
  simp only [List.append_nil] at hW'
  refine (walk a0 w0 W).mono fun e W' ⟨he, hg⟩ => ?_
  subst he
  exact ⟨_, rfl, post_of_same (pa := []) (pv := []) hW' (fun _ _ _ => (trodAll_cons_mk (shut_bool Try.underlying4 _) trodAll_mk0)) (fun sp _ => (trodAll_cons_mk (shut_int Try.underlying5 w0) trodAll_mk0)) (fun _ _ => rfl) rfl
    (hg.frame _) hg.2.1 (ok_one (by kernel_rfl) rfl (okWide_bool_mk Try.underlying4 _))⟩

theorem over : Rows.fnValueKindNumberExactlyWhereIntegerStartsRow.holds Try.pinned (OpenSpec.ofChange Rows.fnValueKindNumberExactlyWhereIntegerStartsSpec) :=
  OpenClaim.holds_of_wide 6 Try.f6 rfl rfl rfl rfl rfl rfl rfl ⟨rfl, rfl, rfl, rfl, rfl⟩ rfl rfl rfl rfl rfl (by kernel_rfl) Try.func6 (by kernel_rfl)
    (of_decide_eq_true (by kernel_rfl)) (by unfold Func.isWrapper; first | (rw [if_pos (by decide +kernel)]; kernel_rfl) | (rw [if_neg (by decide +kernel)]; exact ⟨rfl, rfl⟩))
    (fun os started H enc _ => lifted os started H enc)

/-- ████ THE STATEMENT ████ -/
theorem proved : Rows.FnValueKindNumberExactlyWhereIntegerStartsSaid :=
  over
#print axioms proved
end Go.Proofs.Qxb6601322a.fnValueKindNumberExactlyWhereIntegerStarts
