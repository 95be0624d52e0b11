/-
  THE CONTRACTS OF 'zzAllDigits' (function 12) AND 'zzPlainGrammar' (function 8).
-/
import Derived.Test.Qxb6601263aIs
namespace Go.Proofs.Qxb6601263a
open Go.RowKit

/-- all bytes are digits -/
def All (s : ByteArray) : Prop := ∀ k, k < s.size → dg (bt s k)

theorem all_any (s : ByteArray) (w : World) (hs : s.size ≤ 1048576) : Calls Try.prog 12 #[.string s] w (Says (All s) w) := by
  go_enter Try.func12, Try.ntmps12
  go_wp2
  go_loop [3] (fun i => ∃ t : Nat, t ≤ s.size ∧ i = .int .i64 t ∧ ∀ k, k < t → dg (bt s k)) (fun i => s.size - (intOf i).toNat)
  case atStart => exact ⟨0, Nat.zero_le _, rfl, fun k h => by omega⟩
  case round =>
    obtain ⟨t, ht, rfl, hall⟩ := hrel
    have HA : Hid (∀ k, k < t → dg (bt s k)) := hall
    clear hall
    by_cases hlt : t < s.size
    · have hx := bt_at hlt
      by_cases e1 : 48 ≤ bt s t
      · by_cases e2 : bt s t ≤ 57
        · go_wp2
          go_round
          case rel =>
            refine ⟨t + 1, by omega, by go_num, fun k hk => ?_⟩
            rcases Nat.lt_or_ge k t with h | h
            · exact HA.out k h
            · obtain rfl : k = t := by omega
              exact ⟨e1, e2⟩
          case measure => simp [intOf]; omega
        · go_wp2
          go_ret
          exact says_no fun h => by have := (h t hlt).2; omega
      · go_wp2
        go_ret
        exact says_no fun h => by have := (h t hlt).1; omega
    · obtain rfl : t = s.size := by omega
      go_wp2
      go_ret
      exact says_mk ⟨fun _ => HA.out, fun _ => rfl⟩
theorem all_yes (s : ByteArray) (w : World) (hs : s.size ≤ 1048576) (h : All s) : Calls Try.prog 12 #[.string s] w fun e w' => e = .returned (.bool true) ∧ w = w' := by
  refine (all_any s w hs).mono fun e w' hp => ?_
  obtain ⟨rfl, ⟨rfl, _⟩ | ⟨_, h'⟩⟩ := hp.cases
  · exact ⟨rfl, rfl⟩
  · exact absurd h h'
theorem all_not (s : ByteArray) (w : World) (hs : s.size ≤ 1048576) (h : ¬ All s) : Calls Try.prog 12 #[.string s] w fun e w' => e = .returned (.bool false) ∧ w = w' := by
  refine (all_any s w hs).mono fun e w' hp => ?_
  obtain ⟨rfl, ⟨_, h'⟩ | ⟨rfl, _⟩⟩ := hp.cases
  · exact absurd h' h
  · exact ⟨rfl, rfl⟩

theorem all_left {B : ByteArray} {t : Nat} (h : t ≤ B.size) : All (B.extract 0 t) ↔ ∀ k, k < t → dg (bt B k) := by
  have e : (B.extract 0 t).size = t := by simp; omega
  constructor
  · intro a k hk
    have := a k (by omega)
    rwa [bt_extract (by omega), Nat.zero_add] at this
  · intro a k hk
    rw [bt_extract hk, Nat.zero_add]
    exact a k (by omega)
theorem all_right {B : ByteArray} {t : Nat} : All (B.extract t B.size) ↔ ∀ k, k < B.size - t → dg (bt B (t + k)) := by
  have e : (B.extract t B.size).size = B.size - t := by simp
  constructor
  · intro a k hk
    have := a k (by omega)
    rwa [bt_extract (by omega)] at this
  · intro a k hk
    rw [bt_extract hk]
    exact a k (by omega)
theorem dot_law {B : ByteArray} {t : Nat} (hlt : t < B.size) (e : (bt B t == 46) = true) : Pl (bt B) B.size ↔ (0 < t ∧ t + 1 < B.size ∧ All (B.extract 0 t) ∧ All (B.extract (t + 1) B.size)) := by
  rw [all_left (by omega), all_right]
  exact Pl_dot hlt (by simpa using e)

set_option maxHeartbeats 1000000 in
theorem gr_minus (s : ByteArray) (w : World) (hs : s.size ≤ 1048576) (h0 : 0 < s.size) (hm : (bt s 0 == 45) = true) : Calls Try.prog 8 #[.string s] w (Says (Is s) w) := by
  have hb0 := bt_at h0
  go_enter Try.func8, Try.ntmps8
  go_wp2
  have hI := Is_minus h0 hm
  have hBs : (s.extract 1 s.size).size ≤ 1048576 := by simp; omega
  generalize s.extract 1 s.size = B at hI hBs ⊢
  have HI : Hid (Is s ↔ Pl (bt B) B.size) := hI
  clear hI
  go_loop [5, 6] (fun d i => ∃ t : Nat, t ≤ B.size ∧ d = .int .i64 (-1) ∧ i = .int .i64 t ∧ ∀ k, k < t → bt B k ≠ 46) (fun _ i => B.size - (intOf i).toNat)
  case atStart => exact ⟨0, Nat.zero_le _, rfl, rfl, fun k h => by omega⟩
  case round =>
    obtain ⟨t, ht, rfl, rfl, hall⟩ := hrel
    have HA : Hid (∀ k, k < t → bt B k ≠ 46) := hall
    clear hall
    by_cases hlt : t < B.size
    · have hx := bt_at hlt
      by_cases e1 : (bt B t == 46) = true
      · have HD0 := dot_law hlt e1
        rw [← HI.out] at HD0
        have HD : Hid (Is s ↔ _) := HD0
        clear HD0
        by_cases g1 : 0 < t
        · by_cases g2 : 0 < B.size - (t + 1)
          · by_cases g3 : All (B.extract 0 t)
            · have c1 := all_yes (B.extract 0 t) w (by simp; omega) g3
              by_cases g4 : All (B.extract (t + 1) B.size)
              · have c2 := all_yes (B.extract (t + 1) B.size) w (by simp; omega) g4
                have R : Hid (Is s) := HD.out.2 ⟨g1, by omega, g3, g4⟩
                clear g3 g4 HD
                go_wp2_with fail
                refine c1.mono ?_
                rintro e w' ⟨rfl, rfl⟩
                go_wp2_with fail
                refine c2.mono ?_
                rintro e w' ⟨rfl, rfl⟩
                go_wp2
                go_ret
                exact says_mk ⟨fun _ => R.out, fun _ => rfl⟩
              · have c2 := all_not (B.extract (t + 1) B.size) w (by simp; omega) g4
                have R : Hid (¬ Is s) := fun h => g4 (HD.out.1 h).2.2.2
                clear g3 g4 HD
                go_wp2_with fail
                refine c1.mono ?_
                rintro e w' ⟨rfl, rfl⟩
                go_wp2_with fail
                refine c2.mono ?_
                rintro e w' ⟨rfl, rfl⟩
                go_wp2
                go_ret
                exact says_no R.out
            · have c1 := all_not (B.extract 0 t) w (by simp; omega) g3
              have R : Hid (¬ Is s) := fun h => g3 (HD.out.1 h).2.2.1
              clear g3 HD
              go_wp2_with fail
              refine c1.mono ?_
              rintro e w' ⟨rfl, rfl⟩
              go_wp2
              go_ret
              exact says_no R.out
          · have R : Hid (¬ Is s) := fun h => g2 (by have := (HD.out.1 h).2.1; omega)
            clear HD
            go_wp2
            go_ret
            exact says_no R.out
        · have R : Hid (¬ Is s) := fun h => g1 (HD.out.1 h).1
          clear HD
          go_wp2
          go_ret
          exact says_no R.out
      · have e2 : (bt B t == 46) = false := by simpa using e1
        go_wp2
        go_round
        case rel =>
          refine ⟨t + 1, by omega, rfl, by go_num, fun k hk => ?_⟩
          rcases Nat.lt_or_ge k t with h | h
          · exact HA.out k h
          · obtain rfl : k = t := by omega
            simpa using e2
        case measure => simp [intOf]; omega
    · obtain rfl : t = B.size := by omega
      have HN0 := Pl_nodot HA.out
      rw [← HI.out] at HN0
      have HN : Hid (Is s ↔ _) := HN0
      clear HN0
      by_cases g1 : 0 < B.size
      · by_cases g2 : All B
        · have c1 := all_yes B w (by omega) g2
          have R : Hid (Is s) := HN.out.2 ⟨g1, g2⟩
          clear g2 HN
          go_wp2_with fail
          refine c1.mono ?_
          rintro e w' ⟨rfl, rfl⟩
          go_wp2
          go_ret
          exact says_mk ⟨fun _ => R.out, fun _ => rfl⟩
        · have c1 := all_not B w (by omega) g2
          have R : Hid (¬ Is s) := fun h => g2 (HN.out.1 h).2
          clear g2 HN
          go_wp2_with fail
          refine c1.mono ?_
          rintro e w' ⟨rfl, rfl⟩
          go_wp2
          go_ret
          exact says_no R.out
      · have R : Hid (¬ Is s) := fun h => g1 (HN.out.1 h).1
        clear HN
        go_wp2
        go_ret
        exact says_no R.out

set_option maxHeartbeats 1000000 in
theorem gr_plain (s : ByteArray) (w : World) (hs : s.size ≤ 1048576) (hm : 0 < s.size → (bt s 0 == 45) = false) : Calls Try.prog 8 #[.string s] w (Says (Is s) w) := by
  have hI := Is_plain hm
  by_cases h0 : 0 < s.size
  · have hb0 := bt_at h0
    have hm' := hm h0
    clear hm
    go_enter Try.func8, Try.ntmps8
    go_wp2
    have HI : Hid (Is s ↔ Pl (bt s) s.size) := hI
    clear hI
    go_loop [5, 6] (fun d i => ∃ t : Nat, t ≤ s.size ∧ d = .int .i64 (-1) ∧ i = .int .i64 t ∧ ∀ k, k < t → bt s k ≠ 46) (fun _ i => s.size - (intOf i).toNat)
    case atStart => exact ⟨0, Nat.zero_le _, rfl, rfl, fun k h => by omega⟩
    case round =>
      obtain ⟨t, ht, rfl, rfl, hall⟩ := hrel
      have HA : Hid (∀ k, k < t → bt s k ≠ 46) := hall
      clear hall
      by_cases hlt : t < s.size
      · have hx := bt_at hlt
        by_cases e1 : (bt s t == 46) = true
        · have HD0 := dot_law hlt e1
          rw [← HI.out] at HD0
          have HD : Hid (Is s ↔ _) := HD0
          clear HD0
          by_cases g1 : 0 < t
          · by_cases g2 : 0 < s.size - (t + 1)
            · by_cases g3 : All (s.extract 0 t)
              · have c1 := all_yes (s.extract 0 t) w (by simp; omega) g3
                by_cases g4 : All (s.extract (t + 1) s.size)
                · have c2 := all_yes (s.extract (t + 1) s.size) w (by simp; omega) g4
                  have R : Hid (Is s) := HD.out.2 ⟨g1, by omega, g3, g4⟩
                  clear g3 g4 HD
                  go_wp2_with fail
                  refine c1.mono ?_
                  rintro e w' ⟨rfl, rfl⟩
                  go_wp2_with fail
                  refine c2.mono ?_
                  rintro e w' ⟨rfl, rfl⟩
                  go_wp2
                  go_ret
                  exact says_mk ⟨fun _ => R.out, fun _ => rfl⟩
                · have c2 := all_not (s.extract (t + 1) s.size) w (by simp; omega) g4
                  have R : Hid (¬ Is s) := fun h => g4 (HD.out.1 h).2.2.2
                  clear g3 g4 HD
                  go_wp2_with fail
                  refine c1.mono ?_
                  rintro e w' ⟨rfl, rfl⟩
                  go_wp2_with fail
                  refine c2.mono ?_
                  rintro e w' ⟨rfl, rfl⟩
                  go_wp2
                  go_ret
                  exact says_no R.out
              · have c1 := all_not (s.extract 0 t) w (by simp; omega) g3
                have R : Hid (¬ Is s) := fun h => g3 (HD.out.1 h).2.2.1
                clear g3 HD
                go_wp2_with fail
                refine c1.mono ?_
                rintro e w' ⟨rfl, rfl⟩
                go_wp2
                go_ret
                exact says_no R.out
            · have R : Hid (¬ Is s) := fun h => g2 (by have := (HD.out.1 h).2.1; omega)
              clear HD
              go_wp2
              go_ret
              exact says_no R.out
          · have R : Hid (¬ Is s) := fun h => g1 (HD.out.1 h).1
            clear HD
            go_wp2
            go_ret
            exact says_no R.out
        · have e2 : (bt s t == 46) = false := by simpa using e1
          go_wp2
          go_round
          case rel =>
            refine ⟨t + 1, by omega, rfl, by go_num, fun k hk => ?_⟩
            rcases Nat.lt_or_ge k t with h | h
            · exact HA.out k h
            · obtain rfl : k = t := by omega
              simpa using e2
          case measure => simp [intOf]; omega
      · obtain rfl : t = s.size := by omega
        have HN0 := Pl_nodot HA.out
        rw [← HI.out] at HN0
        have HN : Hid (Is s ↔ _) := HN0
        clear HN0
        by_cases g1 : 0 < s.size
        · by_cases g2 : All s
          · have c1 := all_yes s w (by omega) g2
            have R : Hid (Is s) := HN.out.2 ⟨g1, g2⟩
            clear g2 HN
            go_wp2_with fail
            refine c1.mono ?_
            rintro e w' ⟨rfl, rfl⟩
            go_wp2
            go_ret
            exact says_mk ⟨fun _ => R.out, fun _ => rfl⟩
          · have c1 := all_not s w (by omega) g2
            have R : Hid (¬ Is s) := fun h => g2 (HN.out.1 h).2
            clear g2 HN
            go_wp2_with fail
            refine c1.mono ?_
            rintro e w' ⟨rfl, rfl⟩
            go_wp2
            go_ret
            exact says_no R.out
        · exact absurd h0 g1
  · clear hm
    have R : Hid (¬ Is s) := fun h => by
      rcases hI.1 h with ⟨h, _⟩ | ⟨p, h1, h2, _⟩
      · exact h0 h
      · omega
    clear hI
    go_enter Try.func8, Try.ntmps8
    go_wp2
    go_loop [5, 6] (fun d i => d = .int .i64 (-1) ∧ i = .int .i64 0) (fun _ _ => 0)
    case atStart => exact ⟨rfl, rfl⟩
    case round =>
      obtain ⟨rfl, rfl⟩ := hrel
      go_wp2
      go_ret
      exact says_no R.out

theorem gr_any (s : ByteArray) (w : World) (hs : s.size ≤ 1048576) : Calls Try.prog 8 #[.string s] w (Says (Is s) w) := by
  by_cases h : 0 < s.size ∧ (bt s 0 == 45) = true
  · exact gr_minus s w hs h.1 h.2
  · exact gr_plain s w hs fun h0 => by
      cases e : bt s 0 == 45 with
      | true => exact absurd ⟨h0, e⟩ h
      | false => rfl
#print axioms gr_any

theorem small (s : ByteArray) (w : World) (hs : s.size ≤ 1048576) : Calls Try.prog 6 #[.string s] w fun e w' => e = .returned (.bool true) ∧ w = w' := by
  go_enter Try.func6, Try.ntmps6
  go_wp2
  go_ret
  exact ⟨rfl, rfl⟩

theorem walk_all (s : ByteArray) (w0 : s.size ≤ maxLen) (w : World) : Calls Try.prog 3 #[.string s] w fun e w' => e = .returned (.bool true) ∧ Grown w w' := by
  unfold maxLen at w0
  by_cases hs : s.size ≤ 1048576
  · have c1 := fun w => is_any s w hs
    have c2 := fun w => gr_any s w hs
    go_enter Try.func3, Try.ntmps3
    go_wp2_with (first | (go_at_call 6; refine (small _ _ hs).mono ?_; rintro e w' ⟨rfl, rfl⟩) | (go_at_call 7; go_in))
    refine (c1 _).mono ?_
    rintro e w' hp
    obtain ⟨rfl, h1⟩ := hp.cases
    clear hp
    rcases h1 with ⟨rfl, h1⟩ | ⟨rfl, h1⟩
    all_goals
      go_wp2_with fail
      refine (c2 _).mono ?_
      rintro e w' hp
      obtain ⟨rfl, h2⟩ := hp.cases
      clear hp
    · rcases h2 with ⟨rfl, h2⟩ | ⟨rfl, h2⟩
      · go_wp2
        go_ret
        exact ⟨rfl, Grown.refl _⟩
      · exact absurd h1 h2
    · rcases h2 with ⟨rfl, h2⟩ | ⟨rfl, h2⟩
      · exact absurd h2 h1
      · go_wp2
        go_ret
        exact ⟨rfl, Grown.refl _⟩
  · go_enter Try.func3, Try.ntmps3
    go_wp2
    go_ret
    exact ⟨rfl, Grown.refl _⟩
#print axioms walk_all
end Go.Proofs.Qxb6601263a
