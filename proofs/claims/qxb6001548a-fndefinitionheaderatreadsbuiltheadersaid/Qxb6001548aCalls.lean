/-
  THE READERS' CONTRACTS AT A LIST OF BYTES, BY POSITION; ONE STEP OF 'h.params = append(h.params, ..)'.
-/
import Derived.Test.Qxb6001548aPrefix
import Derived.Test.Qxb6001548aChecks
import Derived.Test.Qxb6001548aShape
import Derived.Deep.RegionLaw
namespace Go.Proofs.Qxb6001548a
open Go.RowKit Go.ChangeShapes Go.WideShapes Go.ChangeAt

/-- the list lies at the head of block g -/
def Lies (w : World) (g : Nat) (l : List Int) : Prop := Row w g l.length (fun k => l.getD k 0)
theorem Lies.below {w w' : World} {g B : Nat} {l : List Int} (h : Lies w g l) (hg : g < B) (hb : Below B w w') : Lies w' g l := fun k hk => (hb.cell (p := ⟨g, k, none⟩) hg).trans (h k hk)

/-- what the readers ask of the row: its size and capacity -/
def Fit (l : List Int) (cap : Nat) : Prop := l.length ≤ 2000000 ∧ l.length ≤ cap ∧ cap ≤ 9223372036854775807

theorem Txt.head {l r : List Int} {a : Nat} {x : Int} (h : Txt l a (x :: r)) : a < l.length ∧ l.getD a 0 = x := by
  obtain ⟨h1, h2⟩ := h.get
  have := h2 0 (by simp)
  exact ⟨by simp at h1; omega, by simpa using this⟩

theorem c_yes {l : List Int} {cap a : Nat} {s : ByteArray} (hf : Fit l cap) (h : Txt l a (btl s)) (h0 : 0 < s.size) (g : Nat) (w : World) (hl : Lies w g l) (i : Int) (hi : i = (a : Int)) :
    Calls Try.prog 22 #[.slice (some ⟨g, 0, none⟩) l.length cap, .int .i64 i, .string s] w fun e w' => e = .returned (.bool true) ∧ w = w' := by
  subst hi
  obtain ⟨h1, h2⟩ := h.get
  rw [btl_length] at h1 h2
  exact prefix_yes g l.length cap a s _ w (by have := hf.1; omega) hf.2.2 hf.2.1 h0 h1 (fun k hk => (h2 k hk).trans (btl_get hk)) hl
theorem c_no {l r : List Int} {cap a : Nat} {x : Int} {s : ByteArray} (hf : Fit l cap) (h : Txt l a (x :: r)) (hx : 0 ≤ x ∧ x ≤ 255) (h0 : 0 < s.size) (hs : s.size ≤ 1000) (hne : x ≠ bt s 0) (g : Nat) (w : World) (hl : Lies w g l) (i : Int) (hi : i = (a : Int)) :
    Calls Try.prog 22 #[.slice (some ⟨g, 0, none⟩) l.length cap, .int .i64 i, .string s] w fun e w' => e = .returned (.bool false) ∧ w = w' := by
  subst hi
  obtain ⟨h1, h2⟩ := h.head
  exact prefix_no g l.length cap a s _ w (by have := hf.1; omega) hf.2.2 hf.2.1 h0 hs h1 (by rw [h2]; exact hx) (by rw [h2]; exact hne) hl
theorem c_blank {l r : List Int} {cap a b : Nat} {x : Int} (hf : Fit l cap) (h : Blank l a b) (hx : Txt l b (x :: r)) (hne : ¬ bl x) (g : Nat) (w : World) (hl : Lies w g l) (i : Int) (hi : i = (a : Int)) :
    Calls Try.prog 23 #[.slice (some ⟨g, 0, none⟩) l.length cap, .int .i64 i] w fun e w' => e = .returned (.int .i64 b) ∧ w = w' := by
  subst hi
  obtain ⟨h1, h2, h3⟩ := h.get
  exact blanks_any g l.length cap a b _ w (by have := hf.1; omega) h1 h2 h3 (fun _ => by rw [hx.head.2]; exact hne) hl
theorem c_name {l r : List Int} {cap a : Nat} {x : Int} {s : ByteArray} (hf : Fit l cap) (h : Txt l a (btl s)) (hv : VN s false) (hx : Txt l (a + s.size) (x :: r)) (hne : ¬ nb x) (g : Nat) (w : World) (hl : Lies w g l) (i : Int) (hi : i = (a : Int)) :
    Calls Try.prog 24 #[.slice (some ⟨g, 0, none⟩) l.length cap, .int .i64 i] w fun e w' => e = .returned (.int .i64 ((a + s.size : Nat) : Int)) ∧ w = w' := by
  subst hi
  obtain ⟨h1, h2⟩ := h.get
  rw [btl_length] at h1 h2
  obtain ⟨v1, v2, v3⟩ := hv
  have e0 : l.getD a 0 = bt s 0 := by have := h2 0 v1; rwa [btl_get v1] at this
  refine name_any g l.length cap a (a + s.size) _ w (by have := hf.1; omega) (by omega) h1 (by rw [e0]; exact v2 rfl) (fun k hk1 hk2 => ?_) (fun _ => by rw [hx.head.2]; exact hne) hl
  have := h2 (k - a) (by omega)
  rw [show a + (k - a) = k by omega, btl_get (by omega)] at this
  rw [this]; exact v3 _ (by omega)
theorem c_word {l : List Int} {cap q j : Nat} {s : ByteArray} (hf : Fit l cap) (h : Item l q s j) (hv : VN s true) (g : Nat) (w : World) (hl : Lies w g l) (i : Int) (hi : i = (q : Int)) :
    Calls Try.prog 25 #[.slice (some ⟨g, 0, none⟩) l.length cap, .int .i64 i] w fun e w' => e = .returned (.tuple #[.int .i64 ((q + s.size + 2 : Nat) : Int), .bool true]) ∧ w = w' := by
  subst hi
  obtain ⟨h1, h2⟩ := h.1.get
  obtain ⟨v1, _, v3⟩ := hv
  have len : ([35] ++ btl s ++ [35]).length = s.size + 2 := by simp [btl_length]
  rw [len] at h1 h2
  have hmid : ∀ k, k < s.size → l.getD (q + 1 + k) 0 = bt s k := fun k hk => by
    have := h2 (1 + k) (by omega)
    rw [← Nat.add_assoc] at this
    rw [this, ← btl_get hk]
    simp [List.getD_eq_getElem?_getD, List.getElem?_append, btl_length, hk, Nat.add_comm 1 k]
  have := word_any g l.length cap q (q + s.size + 1) _ w (by have := hf.1; omega) hf.2.2 hf.2.1 (by omega) (by omega) (by have := h2 0 (by omega); simpa using this) (fun k hk1 hk2 => by
      have := hmid (k - (q + 1)) (by omega)
      rw [show q + 1 + (k - (q + 1)) = k by omega] at this
      rw [this]; exact v3 _ (by omega)) (by
      have := h2 (s.size + 1) (by omega)
      rw [← Nat.add_assoc] at this
      rw [this]
      simp [List.getD_eq_getElem?_getD, btl_length]) hl
  exact this

theorem Try.info22 : (Try.prog.info? 22).map (fun i => (i.zero, i.size, i.bytes)) = some (some (.slice none 0 0), 1, 24) := by kernel_rfl

/-- append of one slice to a row of slices of the call's own, as one step of a region that draws -/
theorem step_params {ops : Array Oper} {o : Oper} {a : Act} {w : World} {K : Act → World → Prop} {Q : Exit → Act → World → Prop} {E : Prop}
    (hg : o.guard = none) (s x : Operand) (hop : o.op = Op.call { callee := Callee.builtin Builtin.append, args := #[s, x], argTypes := #[29, 29] })
    (base : Nat) (v : Value) (n : Nat) (xs : List Value) (hs : a.eval s = v) (hown : w.ownsRow base 22 1 v n xs) (ad : Addr) (u : Value) (hx : a.eval x = .slice (some ad) 1 1) (hu : w.cell? ad = some u) (hone : u.oneCell' = true)
    (hn : n ≤ 1000000) (hbase : base ≤ w.heap.size)
    (hK : ∀ g cap w', w'.ownsRow base 22 1 (.slice (some ⟨g, 0, none⟩) (n + 1) cap) (n + 1) (xs ++ [u]) → w.grownBy w' v.ownBlock → K (a.put o.dst (.slice (some ⟨g, 0, none⟩) (n + 1) cap)) w') :
    if Region.wanted o (yielded ops a.tmps) = true then Oper.wp Try.prog o a w K Q else E := by
  have hw : Region.wanted o (yielded ops a.tmps) = true := by simp [Region.wanted, hg]
  rw [if_pos hw]
  obtain ⟨i0, hi, hz0, hz1, hz2⟩ := info_parts Try.info22
  obtain ⟨v', w', hrun, r1, r2, _⟩ := run_append_own (P := Try.prog) w base 29 o.type 22 i0 (.slice none 0 0) 1 24 Try.underlying29 hi hz0 hz1 hz2 rfl (by decide) v n xs hown ad 1 1 [u] rfl (fun j y hj => by
      have hj0 : j = 0 := by
        cases j with
        | zero => rfl
        | succ j => simp at hj
      subst hj0
      simp at hj
      subst hj
      have : ad.add 0 = ad := by
        obtain ⟨b, off, spot⟩ := ad
        unfold Addr.add
        split <;> simp_all
      rw [this]; exact hu) (fun y hy => by simp at hy; subst hy; exact hone) (by unfold maxLen; omega) (by omega) hbase
  rcases r1.2 with ⟨_, h0⟩ | ⟨g, cap, cur, rfl, _⟩
  · omega
  unfold Oper.wp
  simp [execOp, hop, resolve, invoke, builtin, hs, hx, hrun, Result.andThen]
  exact hK g cap w' r1 r2
end Go.Proofs.Qxb6001548a
