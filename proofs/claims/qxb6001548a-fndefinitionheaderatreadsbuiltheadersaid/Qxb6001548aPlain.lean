/-
  BYTES, NAMES, BLANKS: no Go in sight.
-/
namespace Go.Proofs.Qxb6001548a

/-- a byte that may stand in a name -/
def nb (x : Int) : Prop := (97 ≤ x ∧ x ≤ 122) ∨ (65 ≤ x ∧ x ≤ 90) ∨ (48 ≤ x ∧ x ≤ 57) ∨ x = 95
/-- a blank -/
def bl (x : Int) : Prop := x = 32 ∨ x = 9
theorem nb_not {x : Int} (h : ¬ nb x) : x < 48 ∨ (57 < x ∧ x < 65) ∨ (90 < x ∧ x < 95) ∨ (95 < x ∧ x < 97) ∨ 122 < x := by unfold nb at h; omega

/-- the k-th byte of a string, 0 beyond its end -/
def bt (s : ByteArray) (k : Nat) : Int := if h : k < s.size then ((s[k]'h).toNat : Int) else 0
theorem bt_at {s : ByteArray} {k : Nat} (h : k < s.size) : ((s[k]'h).toNat : Int) = bt s k := by unfold bt; rw [dif_pos h]
theorem bt_rng (s : ByteArray) (k : Nat) : 0 ≤ bt s k ∧ bt s k ≤ 255 := by
  unfold bt
  split
  · rename_i h
    have := (s[k]'h).toNat_lt
    omega
  · omega
/-- a string's bytes as numbers -/
def btl (s : ByteArray) : List Int := (List.range s.size).map (bt s)
theorem btl_length (s : ByteArray) : (btl s).length = s.size := by simp [btl]
theorem btl_get {s : ByteArray} {k : Nat} (h : k < s.size) : (btl s).getD k 0 = bt s k := by simp [btl, h]
end Go.Proofs.Qxb6001548a
