/-
  THE CONTRACTS OF hasPrefixAt (22), wordTokenEnd (25), bytesEqualString (11).
-/
import Derived.Test.Qxb6001548aRead
import Derived.Deep.QuietTactic
import Derived.BigQuiet
namespace Go.Proofs.Qxb6001548a
open Go.RowKit Go.ChangeShapes Go.WideShapes Go.ChangeAt

/-- the numbers of a window are a string's bytes -/
theorem nums_eq {f : Nat → Int} {i : Nat} {s : ByteArray} (h : ∀ k, k < s.size → f (i + k) = bt s k) : strOfNums ((List.range s.size).map fun k => f (i + k)) = s := by
  have e : ((List.range s.size).map fun k => f (i + k)) = btl s := List.map_congr_left fun k hk => h k (by simpa using hk)
  rw [e]
  apply ByteArray.ext
  apply Array.ext'
  rw [strOfNums_data]
  apply List.ext_getElem?
  intro k
  by_cases hk : k < s.size
  · have hk' : k < s.data.toList.length := by simpa using hk
    rw [List.getElem?_eq_getElem hk']
    simp only [btl, List.map_map, List.getElem?_map, List.getElem?_range hk, Option.map_some, Function.comp]
    rw [← bt_at hk]
    simp
    rfl
  · rw [List.getElem?_eq_none (by simp [btl]; omega), List.getElem?_eq_none (by simpa using hk)]

set_option linter.unusedVariables false in
theorem prefix_yes (g n cap i : Nat) (s : ByteArray) (f : Nat → Int) (w : World) (hn : n ≤ 3000000) (hcc : cap ≤ 9223372036854775807) (hnc : n ≤ cap) (h0 : 0 < s.size) (hs : i + s.size ≤ n) (heq : ∀ k, k < s.size → f (i + k) = bt s k) (hc : Row w g n f) :
    Calls Try.prog 22 #[.slice (some ⟨g, 0, none⟩) n cap, .int .i64 i, .string s] w fun e w' => e = .returned (.bool true) ∧ w = w' := by
  have hcv := run_convert_bytes_arg (P := Try.prog) w 22 5 Try.underlying22 Try.underlying5 g i s.size (cap - i) ((List.range s.size).map fun k => f (i + k)) (by simp)
    (fun k hk => by rw [hc (i + k) (by omega)]; simp [hk]) 9 Try.underlying9
  rw [nums_eq heq] at hcv
  clear hc heq
  go_enter Try.func22, Try.ntmps22
  go_wp2
  go_ret
  exact ⟨rfl, rfl⟩

theorem nums_ne {xs : List Int} {s : ByteArray} (h0 : 0 < s.size) (hl : xs.length = s.size) (hr : 0 ≤ xs.getD 0 0 ∧ xs.getD 0 0 ≤ 255) (h : xs.getD 0 0 ≠ bt s 0) : strOfNums xs ≠ s := by
  intro e
  apply h
  have h1 : 0 < (strOfNums xs).size := by rw [strOfNums_size]; omega
  rw [← bt_at h0]
  have h2 : (s[0]'h0) = ((strOfNums xs)[0]'h1) := by congr 1; exact e.symm
  rw [h2]
  cases xs with
  | nil => simp at hl; omega
  | cons x xs =>
    have h3 : ((strOfNums (x :: xs))[0]'h1) = UInt8.ofNat x.toNat := rfl
    rw [h3]
    simp at hr ⊢
    omega

set_option linter.unusedVariables false in
theorem prefix_no (g n cap i : Nat) (s : ByteArray) (f : Nat → Int) (w : World) (hn : n ≤ 3000000) (hcc : cap ≤ 9223372036854775807) (hnc : n ≤ cap) (h0 : 0 < s.size) (hs : s.size ≤ 1000) (hi : i < n) (hr : 0 ≤ f i ∧ f i ≤ 255) (hne : f i ≠ bt s 0) (hc : Row w g n f) :
    Calls Try.prog 22 #[.slice (some ⟨g, 0, none⟩) n cap, .int .i64 i, .string s] w fun e w' => e = .returned (.bool false) ∧ w = w' := by
  by_cases hfit : i + s.size ≤ n
  · have hcv := run_convert_bytes_arg (P := Try.prog) w 22 5 Try.underlying22 Try.underlying5 g i s.size (cap - i) ((List.range s.size).map fun k => f (i + k)) (by simp)
      (fun k hk => by rw [hc (i + k) (by omega)]; simp [hk]) 9 Try.underlying9
    have hx : strOfNums ((List.range s.size).map fun k => f (i + k)) ≠ s := nums_ne h0 (by simp) (by simpa [h0] using hr) (by simpa [h0] using hne)
    generalize strOfNums ((List.range s.size).map fun k => f (i + k)) = x at hcv hx
    have hl : (x.toList == s.toList) = false := by
      rw [beq_eq_false_iff_ne, ByteArray.toList_eq, ByteArray.toList_eq]
      exact fun h => hx (bytes_inj h)
    clear hc hne hr
    go_enter Try.func22, Try.ntmps22
    go_wp2
    go_ret
    exact ⟨rfl, rfl⟩
  · clear hc hne hr
    go_enter Try.func22, Try.ntmps22
    go_wp2
    go_ret
    exact ⟨rfl, rfl⟩

theorem hash_at {f : Nat → Int} {i : Nat} (h : f i = 35) : ∀ k, k < (ByteArray.size { data := #[35] }) → f (i + k) = bt { data := #[35] } k := by
  intro k hk
  obtain rfl : k = 0 := by have : ByteArray.size { data := #[35] } = 1 := rfl
                           omega
  rw [Nat.add_zero, h]; rfl

theorem word_any (g n cap i j : Nat) (f : Nat → Int) (w : World) (hn : n ≤ 3000000) (hcc : cap ≤ 9223372036854775807) (hnc : n ≤ cap) (hij : i + 1 < j) (hj : j < n) (hi : f i = 35) (hall : ∀ k, i + 1 ≤ k → k < j → nb (f k)) (hend : f j = 35) (hc : Row w g n f) :
    Calls Try.prog 25 #[.slice (some ⟨g, 0, none⟩) n cap, .int .i64 i] w fun e w' => e = .returned (.tuple #[.int .i64 ((j + 1 : Nat) : Int), .bool true]) ∧ w = w' := by
  have HC : Hid (Row w g n f) := hc
  have HA : Hid (∀ k, i + 1 ≤ k → k < j → nb (f k)) := hall
  have c1 := prefix_yes g n cap i { data := #[35] } f w hn hcc hnc (by decide) (show i + 1 ≤ n by omega) (hash_at hi) hc
  have c2 := prefix_yes g n cap j { data := #[35] } f w hn hcc hnc (by decide) (show j + 1 ≤ n by omega) (hash_at hend) hc
  have c3 := nb_no (f j) w (by rw [hend]; unfold nb; omega)
  have hcj := hc j (by omega)
  clear hc hall hi hend
  go_enter Try.func25, Try.ntmps25
  go_wp2_with fail
  refine c1.mono ?_
  rintro e w' ⟨rfl, rfl⟩
  go_wp2
  go_loop [6] (fun t => ∃ k : Nat, i + 1 ≤ k ∧ k ≤ j ∧ t = .int .i64 k) (fun t => n - (intOf t).toNat)
  case atStart => exact ⟨i + 1, Nat.le_refl _, by omega, by go_num⟩
  case round =>
    clear c1
    obtain ⟨k, hk1, hk2, rfl⟩ := hrel
    by_cases hkj : k < j
    · have hck := HC.out k (by omega)
      have c := fun w => nb_yes (f k) w (HA.out k hk1 hkj)
      go_wp2_with fail
      refine (c _).mono ?_
      rintro e w' ⟨rfl, rfl⟩
      go_wp2
      go_round
      case rel => exact ⟨k + 1, by omega, by omega, by go_num⟩
      case measure => simp [intOf]; omega
    · obtain rfl : j = k := by omega
      go_wp2_with fail
      refine c3.mono ?_
      rintro e w' ⟨rfl, rfl⟩
      go_wp2_with fail
      refine c2.mono ?_
      rintro e w' ⟨rfl, rfl⟩
      go_wp2
      go_ret2
      exact ⟨by go_num, rfl⟩

theorem equal_any (g off n cap : Nat) (s : ByteArray) (f : Nat → Int) (w : World) (hn : n ≤ 3000000) (hs : s.size = n) (heq : ∀ k, k < n → f k = bt s k) (hc : ∀ k, k < n → w.cell? ⟨g, off + k, none⟩ = some (.int .u8 (f k))) :
    Calls Try.prog 11 #[.slice (some ⟨g, off, none⟩) n cap, .string s] w fun e w' => e = .returned (.bool true) ∧ ∃ m, w' = w.drewN m := by
  have HC : Hid (∀ k, k < n → w.cell? ⟨g, off + k, none⟩ = some (.int .u8 (f k))) := hc
  have HE : Hid (∀ k, k < n → f k = bt s k) := heq
  clear hc heq
  subst hs
  go_enter Try.func11, Try.ntmps11
  go_wp2
  go_loopw [5] (fun t wr => ∃ k : Nat, k ≤ s.size ∧ t = .int .i64 k ∧ ∃ m, wr = w.drewN m) (fun t _ => s.size - (intOf t).toNat)
  case atStart => exact ⟨0, Nat.zero_le _, rfl, 0, rfl⟩
  case round =>
    obtain ⟨k, hk, rfl, m, rfl⟩ := hrel
    by_cases hlt : k < s.size
    · have hck := HC.out k hlt
      rw [HE.out k hlt] at hck
      have hx := bt_at hlt
      go_wp2
      go_region
      go_wp2
      go_roundw
      case rel => exact ⟨k + 1, by omega, by go_num, m + 1, rfl⟩
      case measure => simp [intOf]; omega
    · go_wp2
      go_ret
      exact ⟨rfl, m, rfl⟩
end Go.Proofs.Qxb6001548a
