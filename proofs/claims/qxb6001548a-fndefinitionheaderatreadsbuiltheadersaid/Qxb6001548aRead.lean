/-
  THE CONTRACTS OF THE READERS: isNameByte (26), isNameByteZ (20), blanksEnd (23), hasPrefixAt (22), nameEnd (24), wordTokenEnd (25), bytesEqualString (11).
-/
import Derived.Test.Qxb6001548aRows
import Derived.Test.Qxb6001548aPlain
import Derived.WalkKit
import Derived.ProofKit
import Derived.WalkSpells
import Derived.OpenShut
import Derived.Laws.BytesArg
import Derived.RegionTactic
import Derived.ChangeAlike
import Derived.BigRegion
namespace Go.Proofs.Qxb6001548a
open Go.RowKit Go.ChangeShapes Go.WideShapes Go.ChangeAt

theorem ret_bool {a b : Bool} (h : a = b) : Ending.returned (.bool a) = .returned (.bool b) := by rw [h]
theorem nb_yes (c : Int) (w : World) (h : nb c) : Calls Try.prog 26 #[.int .u8 c] w fun e w' => e = .returned (.bool true) ∧ w = w' := by
  rcases h with ⟨h1, h2⟩ | ⟨h1, h2⟩ | ⟨h1, h2⟩ | h
  · go_enter Try.func26, Try.ntmps26
    go_wp2
    go_ret
    exact ⟨rfl, rfl⟩
  · go_enter Try.func26, Try.ntmps26
    go_wp2
    go_ret
    exact ⟨rfl, rfl⟩
  · go_enter Try.func26, Try.ntmps26
    go_wp2
    go_ret
    exact ⟨rfl, rfl⟩
  · subst h
    go_enter Try.func26, Try.ntmps26
    go_wp2
    go_ret
    exact ⟨rfl, rfl⟩
theorem nb_no (c : Int) (w : World) (h : ¬ nb c) : Calls Try.prog 26 #[.int .u8 c] w fun e w' => e = .returned (.bool false) ∧ w = w' := by
  rcases nb_not h with h | ⟨h1, h2⟩ | ⟨h1, h2⟩ | ⟨h1, h2⟩ | h
  all_goals
    go_enter Try.func26, Try.ntmps26
    go_wp2
    go_ret
    exact ⟨ret_bool (by simp; omega), rfl⟩
theorem nbz_yes (c : Int) (w : World) (h : nb c) : Calls Try.prog 20 #[.int .u8 c] w fun e w' => e = .returned (.bool true) ∧ w = w' := by
  rcases h with ⟨h1, h2⟩ | ⟨h1, h2⟩ | ⟨h1, h2⟩ | h
  · go_enter Try.func20, Try.ntmps20
    go_wp2
    go_ret
    exact ⟨rfl, rfl⟩
  · go_enter Try.func20, Try.ntmps20
    go_wp2
    go_ret
    exact ⟨rfl, rfl⟩
  · go_enter Try.func20, Try.ntmps20
    go_wp2
    go_ret
    exact ⟨rfl, rfl⟩
  · subst h
    go_enter Try.func20, Try.ntmps20
    go_wp2
    go_ret
    exact ⟨rfl, rfl⟩
theorem nbz_no (c : Int) (w : World) (h : ¬ nb c) : Calls Try.prog 20 #[.int .u8 c] w fun e w' => e = .returned (.bool false) ∧ w = w' := by
  rcases nb_not h with h | ⟨h1, h2⟩ | ⟨h1, h2⟩ | ⟨h1, h2⟩ | h
  all_goals
    go_enter Try.func20, Try.ntmps20
    go_wp2
    go_ret
    exact ⟨ret_bool (by simp; omega), rfl⟩

/-- the n bytes f lie at the head of block g -/
def Row (w : World) (g n : Nat) (f : Nat → Int) : Prop := ∀ k, k < n → w.cell? ⟨g, k, none⟩ = some (.int .u8 (f k))

theorem blanks_any (g n cap i j : Nat) (f : Nat → Int) (w : World) (hn : n ≤ 3000000) (hij : i ≤ j) (hj : j ≤ n) (hall : ∀ k, i ≤ k → k < j → bl (f k)) (hend : j < n → ¬ bl (f j)) (hc : Row w g n f) :
    Calls Try.prog 23 #[.slice (some ⟨g, 0, none⟩) n cap, .int .i64 i] w fun e w' => e = .returned (.int .i64 j) ∧ w = w' := by
  have HC : Hid (Row w g n f) := hc
  have HA : Hid (∀ k, i ≤ k → k < j → bl (f k)) := hall
  have HE : Hid (j < n → ¬ bl (f j)) := hend
  clear hc hall hend
  go_enter Try.func23, Try.ntmps23
  go_wp2
  go_loop [1] (fun t => ∃ k : Nat, i ≤ k ∧ k ≤ j ∧ t = .int .i64 k) (fun t => n - (intOf t).toNat)
  case atStart => exact ⟨i, Nat.le_refl _, hij, rfl⟩
  case round =>
    obtain ⟨k, hk1, hk2, rfl⟩ := hrel
    by_cases hkj : k < j
    · have hck := HC.out k (by omega)
      rcases HA.out k hk1 hkj with e | e
      · have e' : (f k == 32) = true := by simpa using e
        clear e
        go_wp2
        go_round
        case rel => exact ⟨k + 1, by omega, by omega, by go_num⟩
        case measure => simp [intOf]; omega
      · have e' : (f k == 32) = false := by simp; omega
        have e'' : (f k == 9) = true := by simpa using e
        clear e
        go_wp2
        go_round
        case rel => exact ⟨k + 1, by omega, by omega, by go_num⟩
        case measure => simp [intOf]; omega
    · obtain rfl : j = k := by omega
      by_cases hjn : j < n
      · have hck := HC.out j (by omega)
        have hb := HE.out hjn
        have e' : (f j == 32) = false := by simp; exact fun h => hb (.inl h)
        have e'' : (f j == 9) = false := by simp; exact fun h => hb (.inr h)
        clear hb
        go_wp2
        go_ret
        exact ⟨rfl, rfl⟩
      · go_wp2
        go_ret
        exact ⟨rfl, rfl⟩

theorem name_any (g n cap i j : Nat) (f : Nat → Int) (w : World) (hn : n ≤ 3000000) (hij : i < j) (hj : j ≤ n) (hd : ¬ (48 ≤ f i ∧ f i ≤ 57)) (hall : ∀ k, i ≤ k → k < j → nb (f k)) (hend : j < n → ¬ nb (f j)) (hc : Row w g n f) :
    Calls Try.prog 24 #[.slice (some ⟨g, 0, none⟩) n cap, .int .i64 i] w fun e w' => e = .returned (.int .i64 j) ∧ w = w' := by
  have HC : Hid (Row w g n f) := hc
  have HA : Hid (∀ k, i ≤ k → k < j → nb (f k)) := hall
  have HE : Hid (j < n → ¬ nb (f j)) := hend
  have hci := hc i (by omega)
  clear hc hall hend
  rcases (show f i < 48 ∨ 57 < f i by omega) with h | h
  all_goals
    clear hd
    go_enter Try.func24, Try.ntmps24
    go_wp2
    go_loop [5] (fun t => ∃ k : Nat, i ≤ k ∧ k ≤ j ∧ t = .int .i64 k) (fun t => n - (intOf t).toNat)
    case atStart => exact ⟨i, Nat.le_refl _, by omega, rfl⟩
    case round =>
      clear h hci
      obtain ⟨k, hk1, hk2, rfl⟩ := hrel
      by_cases hkj : k < j
      · have hck := HC.out k (by omega)
        have c := fun w => nb_yes (f k) w (HA.out k hk1 hkj)
        go_wp2_with fail
        refine (c _).mono ?_
        rintro e w' ⟨rfl, rfl⟩
        go_wp2
        go_round
        case rel => exact ⟨k + 1, by omega, by omega, by go_num⟩
        case measure => simp [intOf]; omega
      · obtain rfl : j = k := by omega
        by_cases hjn : j < n
        · have hck := HC.out j (by omega)
          have c := fun w => nb_no (f j) w (HE.out hjn)
          go_wp2_with fail
          refine (c _).mono ?_
          rintro e w' ⟨rfl, rfl⟩
          go_wp2
          go_ret
          exact ⟨rfl, rfl⟩
        · go_wp2
          go_ret
          exact ⟨rfl, rfl⟩
#print axioms name_any
end Go.Proofs.Qxb6001548a
