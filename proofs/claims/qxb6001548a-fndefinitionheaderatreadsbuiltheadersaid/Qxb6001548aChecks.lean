/-
  THE CONTRACTS OF validNameString (17), headerPartsValid (8), headerInputTooBig (7) AND zzBytes_.. (6).
-/
import Derived.Test.Qxb6001548aRead
namespace Go.Proofs.Qxb6001548a
open Go.RowKit Go.ChangeShapes Go.WideShapes Go.ChangeAt

/-- What a call leaves: its answer; the world stands. -/
def Says (p : Prop) (w : World) (e : Ending) (w' : World) : Prop := ∃ v : Bool, e = .returned (.bool v) ∧ (v = true ↔ p) ∧ w = w'
theorem says_yes {p : Prop} {w : World} (h : p) : Says p w (.returned (.bool true)) w := ⟨true, rfl, ⟨fun _ => h, fun _ => rfl⟩, rfl⟩
theorem says_no {p : Prop} {w : World} (h : ¬ p) : Says p w (.returned (.bool false)) w := ⟨false, rfl, ⟨fun e => absurd e (by simp), fun e => absurd e h⟩, rfl⟩
theorem Says.cases {p : Prop} {w w' : World} {e : Ending} (h : Says p w e w') : w = w' ∧ ((e = .returned (.bool true) ∧ p) ∨ (e = .returned (.bool false) ∧ ¬ p)) := by
  obtain ⟨v, rfl, hv, rfl⟩ := h
  cases v with
  | true => exact ⟨rfl, .inl ⟨rfl, hv.1 rfl⟩⟩
  | false => exact ⟨rfl, .inr ⟨rfl, fun h => by have := hv.2 h; cases this⟩⟩

/-- a name: not empty, of name bytes, and (where d says no) not begun by a digit -/
def VN (s : ByteArray) (d : Bool) : Prop := 0 < s.size ∧ (d = false → ¬ (48 ≤ bt s 0 ∧ bt s 0 ≤ 57)) ∧ ∀ k, k < s.size → nb (bt s k)

/-- the rest of validNameString: the loop -/
theorem vn_loop (s : ByteArray) (d : Bool) (w : World) (hs : s.size ≤ 9223372036854775807) (h0 : 0 < s.size) (hd : d = false → bt s 0 < 48 ∨ 57 < bt s 0) : Calls Try.prog 17 #[.string s, .bool d] w (Says (VN s d) w) := by
  have HD : Hid (d = false → ¬ (48 ≤ bt s 0 ∧ bt s 0 ≤ 57)) := fun h => by have := hd h; omega
  have hx0 := bt_at h0
  have hz : ((s.size : Int) == 0) = false := by rw [beq_eq_false_iff_ne]; omega
  rcases (show d = true ∨ (d = false ∧ bt s 0 < 48) ∨ (d = false ∧ 57 < bt s 0 ∧ 48 ≤ bt s 0) by
    cases d with
    | true => exact .inl rfl
    | false => rcases hd rfl with h | h
               · exact .inr (.inl ⟨rfl, h⟩)
               · exact .inr (.inr ⟨rfl, h, by omega⟩)) with rfl | ⟨rfl, h1⟩ | ⟨rfl, h1, h2⟩
  all_goals
    clear hd
    go_enter Try.func17, Try.ntmps17
    go_wp2
    go_loop [5] (fun t => ∃ k : Nat, k ≤ s.size ∧ t = .int .i64 k ∧ ∀ j, j < k → nb (bt s j)) (fun t => s.size - (intOf t).toNat)
    case atStart => exact ⟨0, Nat.zero_le _, rfl, fun j hj => by omega⟩
    case round =>
      clear hx0
      obtain ⟨k, hk, rfl, hall⟩ := hrel
      have HA : Hid (∀ j, j < k → nb (bt s j)) := hall
      clear hall
      by_cases hlt : k < s.size
      · have hx := bt_at hlt
        by_cases hb : nb (bt s k)
        · have c := fun w => nbz_yes (bt s k) w hb
          have HB : Hid (nb (bt s k)) := hb
          clear hb
          go_wp2_with fail
          refine (c _).mono ?_
          rintro e w' ⟨rfl, rfl⟩
          go_wp2
          go_round
          case rel =>
            refine ⟨k + 1, by omega, by go_num, fun j hj => ?_⟩
            rcases Nat.lt_or_ge j k with h | h
            · exact HA.out j h
            · obtain rfl : j = k := by omega
              exact HB.out
          case measure => simp [intOf]; omega
        · have c := fun w => nbz_no (bt s k) w hb
          have HB : Hid (¬ nb (bt s k)) := hb
          clear hb
          go_wp2_with fail
          refine (c _).mono ?_
          rintro e w' ⟨rfl, rfl⟩
          go_wp2
          go_ret
          exact says_no fun h => HB.out (h.2.2 k hlt)
      · obtain rfl : k = s.size := by omega
        go_wp2
        go_ret
        exact says_yes ⟨h0, by first | exact HD.out | exact fun _ => HD.out trivial | (intro e; cases e), HA.out⟩

theorem vn_any (s : ByteArray) (d : Bool) (w : World) (hs : s.size ≤ 9223372036854775807) : Calls Try.prog 17 #[.string s, .bool d] w (Says (VN s d) w) := by
  by_cases h0 : 0 < s.size
  · by_cases hd : d = false → bt s 0 < 48 ∨ 57 < bt s 0
    · exact vn_loop s d w hs h0 hd
    · obtain ⟨rfl, h1, h2⟩ : d = false ∧ 48 ≤ bt s 0 ∧ bt s 0 ≤ 57 := by
        cases d with
        | true => exact absurd (fun h => by cases h) hd
        | false => exact ⟨rfl, by rcases Int.lt_or_le (bt s 0) 48 with h | h
                                  · exact absurd (fun _ => .inl h) hd
                                  · exact h, by rcases Int.lt_or_le 57 (bt s 0) with h | h
                                                · exact absurd (fun _ => .inr h) hd
                                                · exact h⟩
      clear hd
      have hx0 := bt_at h0
      go_enter Try.func17, Try.ntmps17
      go_wp2
      go_ret
      exact says_no fun h => h.2.1 rfl ⟨h1, h2⟩
  · go_enter Try.func17, Try.ntmps17
    go_wp2
    go_ret
    exact says_no fun h => h0 h.1
theorem vn_yes (s : ByteArray) (d : Bool) (w : World) (hs : s.size ≤ 9223372036854775807) (h : VN s d) : Calls Try.prog 17 #[.string s, .bool d] w fun e w' => e = .returned (.bool true) ∧ w = w' := by
  refine (vn_any s d w hs).mono fun e w' hp => ?_
  obtain ⟨rfl, ⟨rfl, _⟩ | ⟨_, h'⟩⟩ := hp.cases
  · exact ⟨rfl, rfl⟩
  · exact absurd h h'
theorem vn_not (s : ByteArray) (d : Bool) (w : World) (hs : s.size ≤ 9223372036854775807) (h : ¬ VN s d) : Calls Try.prog 17 #[.string s, .bool d] w fun e w' => e = .returned (.bool false) ∧ w = w' := by
  refine (vn_any s d w hs).mono fun e w' hp => ?_
  obtain ⟨rfl, ⟨_, h'⟩ | ⟨rfl, _⟩⟩ := hp.cases
  · exact absurd h' h
  · exact ⟨rfl, rfl⟩

/-- THE STRINGS OF A SLICE: it is empty; or it leads to n cells, the strings p. -/
def Strs (w : World) (ao : Option Addr) (n : Nat) (p : Nat → ByteArray) : Prop :=
  n = 0 ∨ ∃ b off, ao = some ⟨b, off, none⟩ ∧ ∀ k, k < n → w.cell? ⟨b, off + k, none⟩ = some (.string (p k))

/-- the parts are valid -/
def Parts (name cls : ByteArray) (np : Nat) (p : Nat → ByteArray) : Prop := VN name false ∧ VN cls false ∧ ∀ k, k < np → VN (p k) true

theorem parts_any (name cls : ByteArray) (ao : Option Addr) (np cp : Nat) (p : Nat → ByteArray) (w : World) (h1 : name.size ≤ 9223372036854775807) (h2 : cls.size ≤ 9223372036854775807) (hnp : np ≤ 9223372036854775807) (hp : ∀ k, k < np → (p k).size ≤ 9223372036854775807) (hs : Strs w ao np p) :
    Calls Try.prog 8 #[.string name, .slice ao np cp, .string cls] w (Says (Parts name cls np p) w) := by
  by_cases v1 : VN name false
  · have c1 := vn_yes name false w h1 v1
    by_cases v2 : VN cls false
    · have c2 := vn_yes cls false w h2 v2
      have V1 : Hid (VN name false) := v1
      have V2 : Hid (VN cls false) := v2
      have HS : Hid (Strs w ao np p) := hs
      have HP : Hid (∀ k, k < np → (p k).size ≤ 9223372036854775807) := hp
      clear v1 v2 hs hp
      go_enter Try.func8, Try.ntmps8
      go_wp2_with fail
      refine c1.mono ?_
      rintro e w' ⟨rfl, rfl⟩
      go_wp2_with fail
      refine c2.mono ?_
      rintro e w' ⟨rfl, rfl⟩
      go_wp2
      go_loop [7] (fun t => ∃ k : Nat, k ≤ np ∧ t = .int .i64 k ∧ ∀ j, j < k → VN (p j) true) (fun t => np - (intOf t).toNat)
      case atStart => exact ⟨0, Nat.zero_le _, rfl, fun j hj => by omega⟩
      case round =>
        clear c1 c2
        obtain ⟨k, hk, rfl, hall⟩ := hrel
        have HA : Hid (∀ j, j < k → VN (p j) true) := hall
        clear hall
        by_cases hlt : k < np
        · rcases HS.out with e | ⟨b, off, rfl, hc⟩
          · omega
          have hck := hc k hlt
          clear hc
          by_cases hv : VN (p k) true
          · have c := vn_yes (p k) true w (HP.out k hlt) hv
            have HV : Hid (VN (p k) true) := hv
            clear hv
            go_wp2_with fail
            refine c.mono ?_
            rintro e w' ⟨rfl, rfl⟩
            go_wp2
            go_round
            case rel =>
              refine ⟨k + 1, by omega, by go_num, fun j hj => ?_⟩
              rcases Nat.lt_or_ge j k with h | h
              · exact HA.out j h
              · obtain rfl : j = k := by omega
                exact HV.out
            case measure => simp [intOf]; omega
          · have c := vn_not (p k) true w (HP.out k hlt) hv
            have HV : Hid (¬ VN (p k) true) := hv
            clear hv
            go_wp2_with fail
            refine c.mono ?_
            rintro e w' ⟨rfl, rfl⟩
            go_wp2
            go_ret
            exact says_no fun h => HV.out (h.2.2 k hlt)
        · obtain rfl : k = np := by omega
          go_wp2
          go_ret
          exact says_yes ⟨V1.out, V2.out, HA.out⟩
    · have c2 := vn_not cls false w h2 v2
      have V2 : Hid (¬ VN cls false) := v2
      clear v1 v2 hs hp
      go_enter Try.func8, Try.ntmps8
      go_wp2_with fail
      refine c1.mono ?_
      rintro e w' ⟨rfl, rfl⟩
      go_wp2_with fail
      refine c2.mono ?_
      rintro e w' ⟨rfl, rfl⟩
      go_wp2
      go_ret
      exact says_no fun h => V2.out h.2.1
  · have c1 := vn_not name false w h1 v1
    have V1 : Hid (¬ VN name false) := v1
    clear v1 hs hp
    go_enter Try.func8, Try.ntmps8
    go_wp2_with fail
    refine c1.mono ?_
    rintro e w' ⟨rfl, rfl⟩
    go_wp2
    go_ret
    exact says_no fun h => V1.out h.1
#print axioms parts_any
end Go.Proofs.Qxb6001548a
