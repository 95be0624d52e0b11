/-
  THE SHAPE OF A HEADER, BY POSITIONS IN A LIST OF BYTES: no Go in sight.
-/
import Derived.Test.Qxb6001548aPlain
namespace Go.Proofs.Qxb6001548a

/-- s stands at a -/
def Txt (l : List Int) (a : Nat) (s : List Int) : Prop := ∃ A R, l = A ++ s ++ R ∧ A.length = a
/-- blanks stand from a to b -/
def Blank (l : List Int) (a b : Nat) : Prop := ∃ s, Txt l a s ∧ a + s.length = b ∧ ∀ x ∈ s, bl x

theorem Txt.more {l : List Int} {a : Nat} {s : List Int} (h : Txt l a s) (r : List Int) : Txt (l ++ r) a s := by
  obtain ⟨A, R, rfl, h⟩ := h
  exact ⟨A, R ++ r, by simp, h⟩
theorem Blank.more {l : List Int} {a b : Nat} (h : Blank l a b) (r : List Int) : Blank (l ++ r) a b := by
  obtain ⟨s, h, e, k⟩ := h
  exact ⟨s, h.more r, e, k⟩
theorem Txt.get {l : List Int} {a : Nat} {s : List Int} (h : Txt l a s) : a + s.length ≤ l.length ∧ ∀ k, k < s.length → l.getD (a + k) 0 = s.getD k 0 := by
  obtain ⟨A, R, rfl, rfl⟩ := h
  refine ⟨by simp, fun k hk => ?_⟩
  simp only [List.getD_eq_getElem?_getD]
  rw [List.append_assoc, List.getElem?_append_right (by omega), List.getElem?_append_left (by omega)]
  congr 2
  omega
theorem Blank.get {l : List Int} {a b : Nat} (h : Blank l a b) : a ≤ b ∧ b ≤ l.length ∧ ∀ k, a ≤ k → k < b → bl (l.getD k 0) := by
  obtain ⟨s, h, rfl, hb⟩ := h
  obtain ⟨h1, h2⟩ := h.get
  refine ⟨by omega, h1, fun k hk1 hk2 => ?_⟩
  have := h2 (k - a) (by omega)
  rw [show a + (k - a) = k by omega] at this
  rw [this, List.getD_eq_getElem?_getD, List.getElem?_eq_getElem (by omega)]
  exact hb _ (List.getElem_mem _)

/-- #p# at q, then blanks up to j -/
def Item (l : List Int) (q : Nat) (p : ByteArray) (j : Nat) : Prop := Txt l q ([35] ++ btl p ++ [35]) ∧ Blank l (q + p.size + 2) j
/-- a comma at j, then blanks up to q -/
def Link (l : List Int) (j q : Nat) : Prop := Txt l j [44] ∧ Blank l (j + 1) q
/-- the first k parameters stand from a to e -/
def Items (l : List Int) (P : Nat → ByteArray) (k a e : Nat) : Prop :=
  ∃ Q J : Nat → Nat, (∀ t, t < k → Item l (Q t) (P t) (J t)) ∧ (∀ t, t + 1 < k → Link l (J t) (Q (t + 1))) ∧ (k = 0 → e = a) ∧ (0 < k → Q 0 = a ∧ J (k - 1) = e)

theorem Items.none (l : List Int) (P : Nat → ByteArray) (a : Nat) : Items l P 0 a a :=
  ⟨fun _ => 0, fun _ => 0, fun t h => by omega, fun t h => by omega, fun _ => rfl, fun h => by omega⟩
theorem Items.more {l : List Int} {P : Nat → ByteArray} {k a e : Nat} (h : Items l P k a e) (r : List Int) : Items (l ++ r) P k a e := by
  obtain ⟨Q, J, h1, h2, h3, h4⟩ := h
  exact ⟨Q, J, fun t ht => ⟨(h1 t ht).1.more r, (h1 t ht).2.more r⟩, fun t ht => ⟨(h2 t ht).1.more r, (h2 t ht).2.more r⟩, h3, h4⟩

theorem Items.add {l : List Int} {P : Nat → ByteArray} {k a e q j : Nat} (h : Items l P k a e) (hq : k = 0 → q = a) (hl : 0 < k → Link l e q) (hi : Item l q (P k) j) : Items l P (k + 1) a j := by
  obtain ⟨Q, J, h1, h2, h3, h4⟩ := h
  refine ⟨fun t => if t = k then q else Q t, fun t => if t = k then j else J t, fun t ht => ?_, fun t ht => ?_, fun h => by omega, fun _ => ?_⟩
  · by_cases e : t = k
    · subst e; simpa using hi
    · simp only [if_neg e]; exact h1 t (by omega)
  · by_cases e' : t + 1 = k
    · have hne : ¬ t = k := by omega
      have := hl (by omega)
      rw [← (h4 (by omega)).2] at this
      simp only [if_pos e', if_neg hne]
      rwa [show k - 1 = t by omega] at this
    · have h5 : ¬ t = k := by omega
      simp only [if_neg e', if_neg h5]
      exact h2 t (by omega)
  · constructor
    · by_cases e' : k = 0
      · subst e'; simpa using hq rfl
      · simp only [if_neg (show ¬ 0 = k by omega)]; exact (h4 (by omega)).1
    · simp

/-- one round of the builder: the first parameter -/
theorem Items.first {l : List Int} {P : Nat → ByteArray} {a : Nat} {s : List Int} (h : Items l P 0 a l.length) (hs : ∀ x ∈ s, bl x) :
    Items (l ++ [35] ++ btl (P 0) ++ [35] ++ s) P 1 a (l ++ [35] ++ btl (P 0) ++ [35] ++ s).length := by
  have ea : l.length = a := h.choose_spec.choose_spec.2.2.1 rfl
  have h' : Items (l ++ [35] ++ btl (P 0) ++ [35] ++ s) P 0 a l.length := (((h.more [35]).more (btl (P 0))).more [35]).more s
  refine h'.add (q := l.length) (fun _ => ea) (fun h => by omega) ⟨⟨l, s, by simp, rfl⟩, s, ⟨l ++ [35] ++ btl (P 0) ++ [35], [], by simp, by simp [btl_length]; omega⟩, by simp [btl_length]; omega, hs⟩
/-- a later one -/
theorem Items.next {l : List Int} {P : Nat → ByteArray} {k a : Nat} {s1 s : List Int} (h : Items l P k a l.length) (hk : 0 < k) (hs1 : ∀ x ∈ s1, bl x) (hs : ∀ x ∈ s, bl x) :
    Items (l ++ [44] ++ s1 ++ [35] ++ btl (P k) ++ [35] ++ s) P (k + 1) a (l ++ [44] ++ s1 ++ [35] ++ btl (P k) ++ [35] ++ s).length := by
  have h' : Items (l ++ [44] ++ s1 ++ [35] ++ btl (P k) ++ [35] ++ s) P k a l.length := (((((h.more [44]).more s1).more [35]).more (btl (P k))).more [35]).more s
  refine h'.add (q := (l ++ [44] ++ s1).length) (fun h => by omega) (fun _ => ⟨⟨l, s1 ++ [35] ++ btl (P k) ++ [35] ++ s, by simp, rfl⟩, s1, ⟨l ++ [44], [35] ++ btl (P k) ++ [35] ++ s, by simp, by simp⟩, by simp; omega, hs1⟩)
    ⟨⟨l ++ [44] ++ s1, s, by simp, rfl⟩, s, ⟨l ++ [44] ++ s1 ++ [35] ++ btl (P k) ++ [35], [], by simp, by simp [btl_length]; omega⟩, by simp [btl_length]; omega, hs⟩

def DEF : List Int := [47, 42, 35, 68, 69, 70, 73, 78, 69]
def CLS : List Int := [67, 76, 65, 83, 83, 40]
def DIS : List Int := [68, 73, 83, 65, 66, 76, 69, 68]

/-- THE HEADER, at n0; its end at fin -/
def Hdr (l : List Int) (n0 : Nat) (name cls : ByteArray) (P : Nat → ByteArray) (np : Nat) (dis crlf : Bool) (fin : Nat) : Prop :=
  ∃ a2 a4 a5 a6 c2 a8, Txt l n0 DEF ∧ Blank l (n0 + 9) a2 ∧ n0 + 9 < a2 ∧ Txt l a2 (btl name) ∧ Txt l (a2 + name.size) [40] ∧ Blank l (a2 + name.size + 1) a4 ∧
    Items l P np a4 a5 ∧ Txt l a5 [41] ∧ Blank l (a5 + 1) a6 ∧ a5 + 1 < a6 ∧ Txt l a6 CLS ∧ Txt l (a6 + 6) (btl cls) ∧ Txt l (a6 + 6 + cls.size) [41] ∧
    ((dis = true ∧ ∃ a7, Blank l (a6 + 7 + cls.size) a7 ∧ a6 + 7 + cls.size < a7 ∧ Txt l a7 DIS ∧ c2 = a7 + 8) ∨ (dis = false ∧ c2 = a6 + 7 + cls.size)) ∧
    Blank l c2 a8 ∧ ((crlf = true ∧ Txt l a8 [13, 10] ∧ fin = a8 + 2) ∨ (crlf = false ∧ Txt l a8 [10] ∧ fin = a8 + 1))

/-- the texts in a row make it -/
theorem Hdr.of_texts {L0 X b1 b2 b3 b4 b5 eol pre suf l : List Int} {name cls : ByteArray} {P : Nat → ByteArray} {np : Nat} {dis crlf : Bool}
    (e0 : L0 = pre ++ DEF ++ b1 ++ btl name ++ [40] ++ b2) (hb1 : 1 ≤ b1.length) (k1 : ∀ x ∈ b1, bl x) (k2 : ∀ x ∈ b2, bl x) (hX : Items (L0 ++ X) P np L0.length (L0 ++ X).length)
    (hb3 : 1 ≤ b3.length) (k3 : ∀ x ∈ b3, bl x) (hdis : (dis = true ∧ 1 ≤ b4.length ∧ ∃ D, b4 = D ++ DIS ∧ 1 ≤ D.length ∧ ∀ x ∈ D, bl x) ∨ (dis = false ∧ b4 = [])) (k5 : ∀ x ∈ b5, bl x)
    (heol : (crlf = true ∧ eol = [13, 10]) ∨ (crlf = false ∧ eol = [10])) (el : l = L0 ++ X ++ [41] ++ b3 ++ CLS ++ btl cls ++ [41] ++ b4 ++ b5 ++ eol ++ suf) :
    Hdr l pre.length name cls P np dis crlf (L0 ++ X ++ [41] ++ b3 ++ CLS ++ btl cls ++ [41] ++ b4 ++ b5 ++ eol).length := by
  have hX' : Items l P np L0.length (L0 ++ X).length := by
    have := hX.more ([41] ++ b3 ++ CLS ++ btl cls ++ [41] ++ b4 ++ b5 ++ eol ++ suf)
    rw [el]
    simpa [List.append_assoc] using this
  have lD : DEF.length = 9 := rfl
  have lC : CLS.length = 6 := rfl
  have lI : DIS.length = 8 := rfl
  refine ⟨(pre ++ DEF ++ b1).length, L0.length, (L0 ++ X).length, (L0 ++ X ++ [41] ++ b3).length, (L0 ++ X ++ [41] ++ b3 ++ CLS ++ btl cls ++ [41] ++ b4).length, (L0 ++ X ++ [41] ++ b3 ++ CLS ++ btl cls ++ [41] ++ b4 ++ b5).length, ?_, ?_, ?_, ?_, ?_, ?_, hX', ?_, ?_, ?_, ?_, ?_, ?_, ?_, ?_, ?_⟩
  · exact ⟨pre, b1 ++ btl name ++ [40] ++ b2 ++ X ++ [41] ++ b3 ++ CLS ++ btl cls ++ [41] ++ b4 ++ b5 ++ eol ++ suf, by rw [el, e0]; simp, rfl⟩
  · exact ⟨b1, ⟨pre ++ DEF, btl name ++ [40] ++ b2 ++ X ++ [41] ++ b3 ++ CLS ++ btl cls ++ [41] ++ b4 ++ b5 ++ eol ++ suf, by rw [el, e0]; simp, by simp [lD]⟩, by simp [lD]; omega, k1⟩
  · simp [lD]; omega
  · exact ⟨pre ++ DEF ++ b1, [40] ++ b2 ++ X ++ [41] ++ b3 ++ CLS ++ btl cls ++ [41] ++ b4 ++ b5 ++ eol ++ suf, by rw [el, e0]; simp, rfl⟩
  · exact ⟨pre ++ DEF ++ b1 ++ btl name, b2 ++ X ++ [41] ++ b3 ++ CLS ++ btl cls ++ [41] ++ b4 ++ b5 ++ eol ++ suf, by rw [el, e0]; simp, by simp [btl_length]; omega⟩
  · exact ⟨b2, ⟨pre ++ DEF ++ b1 ++ btl name ++ [40], X ++ [41] ++ b3 ++ CLS ++ btl cls ++ [41] ++ b4 ++ b5 ++ eol ++ suf, by rw [el, e0]; simp, by simp [btl_length]; omega⟩, by rw [e0]; simp [btl_length]; omega, k2⟩
  · exact ⟨L0 ++ X, b3 ++ CLS ++ btl cls ++ [41] ++ b4 ++ b5 ++ eol ++ suf, by rw [el]; simp, rfl⟩
  · exact ⟨b3, ⟨L0 ++ X ++ [41], CLS ++ btl cls ++ [41] ++ b4 ++ b5 ++ eol ++ suf, by rw [el]; simp, by simp; omega⟩, by simp; omega, k3⟩
  · simp; omega
  · exact ⟨L0 ++ X ++ [41] ++ b3, btl cls ++ [41] ++ b4 ++ b5 ++ eol ++ suf, by rw [el]; simp, rfl⟩
  · exact ⟨L0 ++ X ++ [41] ++ b3 ++ CLS, [41] ++ b4 ++ b5 ++ eol ++ suf, by rw [el]; simp, by simp [lC]; omega⟩
  · exact ⟨L0 ++ X ++ [41] ++ b3 ++ CLS ++ btl cls, b4 ++ b5 ++ eol ++ suf, by rw [el]; simp, by simp [lC, btl_length]; omega⟩
  · rcases hdis with ⟨hd, _, D, rfl, hD, kD⟩ | ⟨hd, rfl⟩
    · refine .inl ⟨hd, (L0 ++ X ++ [41] ++ b3 ++ CLS ++ btl cls ++ [41] ++ D).length, ?_, ?_, ?_, ?_⟩
      · exact ⟨D, ⟨L0 ++ X ++ [41] ++ b3 ++ CLS ++ btl cls ++ [41], DIS ++ b5 ++ eol ++ suf, by rw [el]; simp, by simp [lC, btl_length]; omega⟩, by simp [lC, btl_length]; omega, kD⟩
      · simp [lC, btl_length]; omega
      · exact ⟨L0 ++ X ++ [41] ++ b3 ++ CLS ++ btl cls ++ [41] ++ D, b5 ++ eol ++ suf, by rw [el]; simp, rfl⟩
      · simp [lI]; omega
    · exact .inr ⟨hd, by simp [lC, btl_length]; omega⟩
  · exact ⟨b5, ⟨L0 ++ X ++ [41] ++ b3 ++ CLS ++ btl cls ++ [41] ++ b4, eol ++ suf, by rw [el]; simp, rfl⟩, by simp; omega, k5⟩
  · rcases heol with ⟨h, rfl⟩ | ⟨h, rfl⟩
    · exact .inl ⟨h, ⟨L0 ++ X ++ [41] ++ b3 ++ CLS ++ btl cls ++ [41] ++ b4 ++ b5, suf, by rw [el], rfl⟩, by simp; omega⟩
    · exact .inr ⟨h, ⟨L0 ++ X ++ [41] ++ b3 ++ CLS ++ btl cls ++ [41] ++ b4 ++ b5, suf, by rw [el], rfl⟩, by simp; omega⟩

end Go.Proofs.Qxb6001548a
