/-
  THE CONTRACTS OF 'isPlain' (function 11) AND ITS SHIM (7).
-/
import Derived.Test.Qxb6601263aRows
import Derived.Test.Qxb6601263aPlain
import Derived.WalkKit
import Derived.ProofKit
import Derived.WalkSpells
import Derived.Lib.Strings
namespace Go.Proofs.Qxb6601263a
open Go.RowKit

theorem bt_extract {s : ByteArray} {a b k : Nat} (h : k < (s.extract a b).size) : bt (s.extract a b) k = bt s (a + k) := by
  have hs : (s.extract a b).size = min b s.size - a := by simp
  rw [hs] at h
  rw [← bt_at (s := s.extract a b) (by omega), ← bt_at (s := s) (by omega), ByteArray.getElem_extract]

/-- the string without its sign -/
def Is (s : ByteArray) : Prop := (0 < s.size ∧ bt s 0 = 45 ∧ Pl (fun k => bt s (1 + k)) (s.size - 1)) ∨ (¬ (0 < s.size ∧ bt s 0 = 45) ∧ Pl (bt s) s.size)

/-- What the call leaves: its answer; the world stands. -/
def Says (p : Prop) (w : World) (e : Ending) (w' : World) : Prop := ∃ v : Bool, e = .returned (.bool v) ∧ (v = true ↔ p) ∧ w = w'
theorem says_mk {p : Prop} {w : World} {v : Bool} (h : v = true ↔ p) : Says p w (.returned (.bool v)) w := ⟨v, rfl, h, rfl⟩
theorem says_no {p : Prop} {w : World} (h : ¬ p) : Says p w (.returned (.bool false)) w := ⟨false, rfl, ⟨fun e => absurd e (by simp), fun e => absurd e h⟩, rfl⟩

theorem Pl_congr {f g : Nat → Int} {n : Nat} (h : ∀ k, k < n → f k = g k) : Pl f n ↔ Pl g n := by
  have one : ∀ {f g : Nat → Int}, (∀ k, k < n → f k = g k) → Pl f n → Pl g n := by
    intro f g h
    rintro (⟨a, b⟩ | ⟨p, a, b, c, d, e⟩)
    · exact .inl ⟨a, fun k hk => by rw [← h k hk]; exact b k hk⟩
    · exact .inr ⟨p, a, b, by rw [← h p (by omega)]; exact c, fun k hk => by rw [← h k (by omega)]; exact d k hk, fun k h1 h2 => by rw [← h k h2]; exact e k h1 h2⟩
  exact ⟨one h, one fun k hk => (h k hk).symm⟩

theorem Is_minus {s : ByteArray} (h0 : 0 < s.size) (h : (bt s 0 == 45) = true) : Is s ↔ Pl (bt (s.extract 1 s.size)) (s.extract 1 s.size).size := by
  have h' : bt s 0 = 45 := by simpa using h
  have e : (s.extract 1 s.size).size = s.size - 1 := by simp
  rw [Pl_congr (g := fun k => bt s (1 + k)) (fun k hk => bt_extract hk), e]
  exact ⟨fun j => j.elim (fun j => j.2.2) (fun j => absurd ⟨h0, h'⟩ j.1), fun j => .inl ⟨h0, h', j⟩⟩
theorem Is_plain {s : ByteArray} (h : 0 < s.size → (bt s 0 == 45) = false) : Is s ↔ Pl (bt s) s.size := by
  have h' : ¬ (0 < s.size ∧ bt s 0 = 45) := fun j => by have := h j.1; simp [j.2] at this
  exact ⟨fun j => j.elim (fun j => absurd ⟨j.1, j.2.1⟩ h') (fun j => j.2), fun j => .inr ⟨h', j⟩⟩

set_option maxHeartbeats 1000000 in
theorem is_minus (s : ByteArray) (w : World) (hs : s.size ≤ 1048576) (h0 : 0 < s.size) (hm : (bt s 0 == 45) = true) : Calls Try.prog 11 #[.string s] w (Says (Is s) w) := by
  have hb0 := bt_at h0
  go_enter Try.func11, Try.ntmps11
  go_wp2
  have hI := Is_minus h0 hm
  have hBs : (s.extract 1 s.size).size ≤ 1048576 := by simp; omega
  generalize s.extract 1 s.size = B at hI hBs ⊢
  have HI : Hid (Is s ↔ Pl (bt B) B.size) := hI
  clear hI
  go_loop [3, 4, 5] (fun d p i => ∃ (t e : Nat) (pt : Bool), t ≤ B.size ∧ d = .int .i64 e ∧ p = .bool pt ∧ i = .int .i64 t ∧ e ≤ t ∧ St (bt B) t e pt) (fun _ _ i => B.size - (intOf i).toNat)
  case atStart => exact ⟨0, 0, false, Nat.zero_le _, rfl, rfl, rfl, Nat.le_refl _, St_start _⟩
  case round =>
    obtain ⟨t, e, pt, ht, rfl, rfl, rfl, he, hst⟩ := hrel
    have HS : Hid (St (bt B) t e pt) := hst
    clear hst
    by_cases hlt : t < B.size
    · have hx := bt_at hlt
      by_cases e1 : 48 ≤ bt B t
      · by_cases e2 : bt B t ≤ 57
        · go_wp2
          go_round
          case rel => exact ⟨t + 1, e + 1, pt, by omega, by go_num, rfl, by go_num, by omega, St_digit HS.out ⟨e1, e2⟩⟩
          case measure => simp [intOf]; omega
        · have e3 : (bt B t == 46) = false := by simp; omega
          go_wp2
          go_ret
          exact says_no fun h => St_bad hlt (fun h => by have := h.2; omega) (by omega) (HI.out.1 h)
      · by_cases e3 : bt B t = 46
        · have e4 : (bt B t == 46) = true := by simpa using e3
          have E3 : Hid (bt B t = 46) := e3
          clear e3
          cases pt with
          | true =>
            go_wp2
            go_ret
            exact says_no fun h => St_dot HS.out hlt E3.out (.inl rfl) (HI.out.1 h)
          | false =>
            by_cases e5 : 0 < e
            · go_wp2
              go_round
              case rel => exact ⟨t + 1, 0, true, by omega, rfl, rfl, by go_num, by omega, St_point HS.out e5 E3.out⟩
              case measure => simp [intOf]; omega
            · obtain rfl : e = 0 := by omega
              go_wp2
              go_ret
              exact says_no fun h => St_dot HS.out hlt E3.out (.inr rfl) (HI.out.1 h)
        · have e4 : (bt B t == 46) = false := by simpa using e3
          go_wp2
          go_ret
          exact says_no fun h => St_bad hlt (fun h => by have := h.1; omega) e3 (HI.out.1 h)
    · obtain rfl : t = B.size := by omega
      go_wp2
      go_ret
      exact says_mk (by rw [HI.out, ← St_end HS.out]; simp)

set_option maxHeartbeats 1000000 in
theorem is_plain (s : ByteArray) (w : World) (hs : s.size ≤ 1048576) (hm : 0 < s.size → (bt s 0 == 45) = false) : Calls Try.prog 11 #[.string s] w (Says (Is s) w) := by
  have hI := Is_plain hm
  by_cases h0 : 0 < s.size
  · have hb0 := bt_at h0
    have hm' := hm h0
    clear hm
    go_enter Try.func11, Try.ntmps11
    go_wp2
    have HI : Hid (Is s ↔ Pl (bt s) s.size) := hI
    clear hI
    go_loop [3, 4, 5] (fun d p i => ∃ (t e : Nat) (pt : Bool), t ≤ s.size ∧ d = .int .i64 e ∧ p = .bool pt ∧ i = .int .i64 t ∧ e ≤ t ∧ St (bt s) t e pt) (fun _ _ i => s.size - (intOf i).toNat)
    case atStart => exact ⟨0, 0, false, Nat.zero_le _, rfl, rfl, rfl, Nat.le_refl _, St_start _⟩
    case round =>
      obtain ⟨t, e, pt, ht, rfl, rfl, rfl, he, hst⟩ := hrel
      have HS : Hid (St (bt s) t e pt) := hst
      clear hst
      by_cases hlt : t < s.size
      · have hx := bt_at hlt
        by_cases e1 : 48 ≤ bt s t
        · by_cases e2 : bt s t ≤ 57
          · go_wp2
            go_round
            case rel => exact ⟨t + 1, e + 1, pt, by omega, by go_num, rfl, by go_num, by omega, St_digit HS.out ⟨e1, e2⟩⟩
            case measure => simp [intOf]; omega
          · have e3 : (bt s t == 46) = false := by simp; omega
            go_wp2
            go_ret
            exact says_no fun h => St_bad hlt (fun h => by have := h.2; omega) (by omega) (HI.out.1 h)
        · by_cases e3 : bt s t = 46
          · have e4 : (bt s t == 46) = true := by simpa using e3
            have E3 : Hid (bt s t = 46) := e3
            clear e3
            cases pt with
            | true =>
              go_wp2
              go_ret
              exact says_no fun h => St_dot HS.out hlt E3.out (.inl rfl) (HI.out.1 h)
            | false =>
              by_cases e5 : 0 < e
              · go_wp2
                go_round
                case rel => exact ⟨t + 1, 0, true, by omega, rfl, rfl, by go_num, by omega, St_point HS.out e5 E3.out⟩
                case measure => simp [intOf]; omega
              · obtain rfl : e = 0 := by omega
                go_wp2
                go_ret
                exact says_no fun h => St_dot HS.out hlt E3.out (.inr rfl) (HI.out.1 h)
          · have e4 : (bt s t == 46) = false := by simpa using e3
            go_wp2
            go_ret
            exact says_no fun h => St_bad hlt (fun h => by have := h.1; omega) e3 (HI.out.1 h)
      · obtain rfl : t = s.size := by omega
        go_wp2
        go_ret
        exact says_mk (by rw [HI.out, ← St_end HS.out]; simp)
  · clear hm
    go_enter Try.func11, Try.ntmps11
    go_wp2
    have HI : Hid (Is s ↔ Pl (bt s) s.size) := hI
    clear hI
    go_loop [3, 4, 5] (fun d p i => ∃ (t e : Nat) (pt : Bool), t ≤ s.size ∧ d = .int .i64 e ∧ p = .bool pt ∧ i = .int .i64 t ∧ e ≤ t ∧ St (bt s) t e pt) (fun _ _ i => s.size - (intOf i).toNat)
    case atStart => exact ⟨0, 0, false, Nat.zero_le _, rfl, rfl, rfl, Nat.le_refl _, St_start _⟩
    case round =>
      obtain ⟨t, e, pt, ht, rfl, rfl, rfl, he, hst⟩ := hrel
      have HS : Hid (St (bt s) t e pt) := hst
      clear hst
      by_cases hlt : t < s.size
      · have hx := bt_at hlt
        by_cases e1 : 48 ≤ bt s t
        · by_cases e2 : bt s t ≤ 57
          · go_wp2
            go_round
            case rel => exact ⟨t + 1, e + 1, pt, by omega, by go_num, rfl, by go_num, by omega, St_digit HS.out ⟨e1, e2⟩⟩
            case measure => simp [intOf]; omega
          · have e3 : (bt s t == 46) = false := by simp; omega
            go_wp2
            go_ret
            exact says_no fun h => St_bad hlt (fun h => by have := h.2; omega) (by omega) (HI.out.1 h)
        · by_cases e3 : bt s t = 46
          · have e4 : (bt s t == 46) = true := by simpa using e3
            have E3 : Hid (bt s t = 46) := e3
            clear e3
            cases pt with
            | true =>
              go_wp2
              go_ret
              exact says_no fun h => St_dot HS.out hlt E3.out (.inl rfl) (HI.out.1 h)
            | false =>
              by_cases e5 : 0 < e
              · go_wp2
                go_round
                case rel => exact ⟨t + 1, 0, true, by omega, rfl, rfl, by go_num, by omega, St_point HS.out e5 E3.out⟩
                case measure => simp [intOf]; omega
              · obtain rfl : e = 0 := by omega
                go_wp2
                go_ret
                exact says_no fun h => St_dot HS.out hlt E3.out (.inr rfl) (HI.out.1 h)
          · have e4 : (bt s t == 46) = false := by simpa using e3
            go_wp2
            go_ret
            exact says_no fun h => St_bad hlt (fun h => by have := h.1; omega) e3 (HI.out.1 h)
      · obtain rfl : t = s.size := by omega
        go_wp2
        go_ret
        exact says_mk (by rw [HI.out, ← St_end HS.out]; simp)

theorem is_any (s : ByteArray) (w : World) (hs : s.size ≤ 1048576) : Calls Try.prog 11 #[.string s] w (Says (Is s) w) := by
  by_cases h : 0 < s.size ∧ (bt s 0 == 45) = true
  · exact is_minus s w hs h.1 h.2
  · exact is_plain s w hs fun h0 => by
      cases e : bt s 0 == 45 with
      | true => exact absurd ⟨h0, e⟩ h
      | false => rfl

theorem Says.cases {p : Prop} {w w' : World} {e : Ending} (h : Says p w e w') : w = w' ∧ ((e = .returned (.bool true) ∧ p) ∨ (e = .returned (.bool false) ∧ ¬ p)) := by
  obtain ⟨v, rfl, hv, rfl⟩ := h
  cases v with
  | true => exact ⟨rfl, .inl ⟨rfl, hv.1 rfl⟩⟩
  | false => exact ⟨rfl, .inr ⟨rfl, fun h => by have := hv.2 h; cases this⟩⟩
#print axioms is_any
end Go.Proofs.Qxb6601263a
