/-
  THE WALK OF FnDefinitionHeaderAtReadsBuiltHeader (3).
-/
import Derived.Test.Qxb6001548aZd
import Derived.Test.Qxb6001548aBuild
import Derived.Test.Qxb6001548aZz
namespace Go.Proofs.Qxb6001548a
open Go.RowKit Go.ChangeShapes Go.WideShapes Go.ChangeAt

theorem Parts.pos {name cls : ByteArray} {np : Nat} {P : Nat → ByteArray} (h : Parts name cls np P) : 0 < name.size := h.1.1

/-- the built row, as the readers want it -/
theorem Cur.lies {w0 w : World} {base N g n cap : Nat} {l : List Int} (h : Cur w0 w base (.slice (some ⟨g, 0, none⟩) n cap) l N) (hN : N ≤ 2000000) : l.length = n ∧ Lies w g l ∧ Fit l cap ∧ g < w.heap.size ∧ base ≤ g := by
  obtain ⟨ho, hle, _, _⟩ := h
  rcases ho.2 with ⟨h0, _⟩ | ⟨g', cap', cur, hv, hb, hg, hnc, hcm, _⟩
  · simp at h0
  · simp only [Value.slice.injEq, Option.some.injEq, Addr.mk.injEq, and_true] at hv
    obtain ⟨rfl, hn, rfl⟩ := hv
    refine ⟨hn.symm, fun k hk => ?_, ⟨by omega, hnc, by unfold maxLen at hcm; omega⟩, (Array.getElem?_eq_some_iff.1 hg).1, hb⟩
    subst hn
    rw [World.ownsRow.cellAt ho k (by omega)]
    simp [cells, List.getD, hk]

theorem Hdr.pos {l : List Int} {n0 np fin : Nat} {name cls : ByteArray} {P : Nat → ByteArray} {dis crlf : Bool} (h : Hdr l n0 name cls P np dis crlf fin) : 0 < l.length := by
  obtain ⟨a2, a4, a5, a6, c2, a8, h1, _⟩ := h
  have := h1.get.1
  have e : DEF.length = 9 := rfl
  omega

theorem Strs.below {w w' : World} {ao : Option Addr} {n : Nat} {p : Nat → ByteArray} (h : Strs w ao n p) (hb : Below w.heap.size w w') : Strs w' ao n p := by
  rcases h with h | ⟨b, off, e, hc⟩
  · exact .inl h
  · exact .inr ⟨b, off, e, fun k hk => (hb.cell (p := ⟨b, off + k, none⟩) (World.block_lt_of_cell? w _ (hc k hk))).trans (hc k hk)⟩

/-- a parameter that was read, in a later world -/
theorem got_cell {w w' : World} {base n cp k g cap : Nat} {po : Option Addr} {P : Nat → ByteArray} {Q : Nat → Nat} (ho : w.ownsRow base 22 1 (.slice po n cp) n (sls g cap P Q n)) (hk : k < n) (hB : Below w.heap.size w w') :
    ∃ gp, po = some ⟨gp, 0, none⟩ ∧ w'.cell? ⟨gp, k, none⟩ = some (.slice (some ⟨g, Q k + 1, none⟩) (P k).size (cap - (Q k + 1))) := by
  rcases ho.2 with ⟨_, h0⟩ | ⟨gp, cp', cur, hv, hb, hg, _⟩
  · omega
  · simp only [Value.slice.injEq, true_and] at hv
    obtain ⟨rfl, rfl⟩ := hv
    refine ⟨gp, rfl, ?_⟩
    rw [hB.cell (p := ⟨gp, k, none⟩) (Array.getElem?_eq_some_iff.1 hg).1, World.ownsRow.cellAt ho k (by omega)]
    simp [sls, hk]

set_option maxRecDepth 20000 in
set_option maxHeartbeats 4000000 in
theorem law_any (a0 ap ab az : Option Addr) (n0 c0 np cp nk ck nz cz : Nat) (name cls : ByteArray) (dis crlf : Bool) (p : Nat → ByteArray) (pre suf : List Int) (fb : Nat → Int) (w : World)
    (b0 : n0 ≤ 9223372036854775807) (b1 : name.size ≤ 9223372036854775807) (b2 : np ≤ 9223372036854775807) (b3 : cls.size ≤ 9223372036854775807) (b4 : nk ≤ 9223372036854775807) (b5 : nz ≤ 9223372036854775807)
    (hp : ∀ k, k < np → (p k).size ≤ 9223372036854775807) (hpre : Src w a0 n0 c0 pre) (hsuf : Src w az nz cz suf) (hk : Codes w ab nk fb) (hs : Strs w ap np p) :
    Calls Try.prog 3 #[.slice a0 n0 c0, .string name, .slice ap np cp, .string cls, .bool dis, .slice ab nk ck, .bool crlf, .slice az nz cz] w fun e w' => e = .returned (.bool true) ∧ Below w.heap.size w w' := by
  have c6 := zzbytes_any a0 ap ab az n0 c0 np cp nk ck nz cz name cls dis crlf p w b0 b1 b2 b3 b4 b5 hp hs
  have c7 := big_any a0 ap ab az n0 c0 np cp nk ck nz cz name cls p w b0 b1 b2 b3 b4 b5 hp hs
  have c8 := parts_any name cls ap np cp p w b1 b3 b2 hp hs
  have c9 := fun hsum => build_any a0 ap ab az n0 c0 np cp nk ck nz cz name cls dis crlf p pre suf fb w hsum hpre hsuf hk hs
  have HS : Hid (Strs w ap np p) := hs
  clear hp hpre hsuf hk hs b0 b1 b2 b3 b4 b5
  go_enter Try.func3, Try.ntmps3
  go_wp2_with fail
  refine c6.mono ?_
  rintro e w' ⟨v, rfl, rfl⟩
  clear c6
  cases v with
  | false =>
    go_wp2
    go_ret
    exact ⟨rfl, Below.refl _ _⟩
  | true =>
  go_wp2_with fail
  refine c7.mono ?_
  rintro e w' ⟨v, rfl, hsum, rfl⟩
  clear c7
  cases v with
  | true =>
    go_wp2
    go_ret
    exact ⟨rfl, Below.refl _ _⟩
  | false =>
  have SUM : Hid (n0 + name.size + cls.size + nz + nk + 16 * np + sumTo p np ≤ 1048576) := hsum rfl
  clear hsum
  go_wp2_with fail
  refine c8.mono ?_
  rintro e w' hq
  obtain ⟨rfl, ⟨rfl, hv⟩ | ⟨rfl, hv⟩⟩ := hq.cases
  rotate_left
  · clear hq hv
    go_wp2
    go_ret
    exact ⟨rfl, Below.refl _ _⟩
  have HV : Hid (Parts name cls np p) := hv
  clear hq hv c8
  have c9' := c9 SUM.out
  clear c9
  go_wp2_with fail
  refine c9'.mono ?_
  rintro e w1 ⟨v, l, fin, rfl, hcur, hH⟩
  clear c9'
  obtain ⟨g, cap, hv, hgb⟩ := hcur.shape hH.pos
  rw [hv] at hcur ⊢
  obtain ⟨-, hl, hf, hg, -⟩ := hcur.lies (Nat.le_refl _)
  have W1 : Hid (Below w.heap.size w w1) := hcur.2.2.2
  have hnp : np ≤ 65536 := by have := SUM.out; omega
  have cz := zd_any l g cap n0 np fin name cls p dis crlf w1 hf hg hl hH HV.out (by omega)
  have HL : Hid (Lies w1 g l) := hl
  have hn := hf.1
  have HG : Hid (g < w1.heap.size) := hg
  have hfin : fin ≤ 2000000 := by
    obtain ⟨a2, a4, a5, a6, c2, a8, _, _, _, _, _, _, _, _, _, _, _, _, _, _, _, h⟩ := hH
    rcases h with ⟨_, h, rfl⟩ | ⟨_, h, rfl⟩ <;> (have := h.get.1; simp at this; omega)
  have bn0 : n0 ≤ 1048576 := by have := SUM.out; omega
  clear hv hcur hl hf hg hH hgb SUM HV
  go_wp2_with fail
  refine cz.mono ?_
  rintro e w2 ⟨po, cq, a, b, Q, rfl, h1, h2, h3, h4, h5⟩
  clear cz
  have L2 : Hid (Lies w2 g l) := HL.out.below HG.out h1
  have HG2 : Hid (g < w2.heap.size) := Nat.lt_of_lt_of_le HG.out h1.size
  have W2 : Hid (Below w.heap.size w w2) := W1.out.trans (h1.mono W1.out.size)
  have O2 : Hid (w2.ownsRow (w1.heap.size + 1) 22 1 (.slice po np cq) np (sls g cap p Q np)) := h2
  have H5 : Hid (∀ t, t < np → Txt l (Q t + 1) (btl (p t))) := h5
  have S2 : Hid (Strs w2 ap np p) := HS.out.below W2.out
  have e1 := eq_at l g a (cap - a) name w2 hn L2.out h3
  have e2 := fun m => eq_at l g b (cap - b) cls (w2.drewN m) hn L2.out h4
  clear h1 h2 h3 h4 h5 HS W1 HL HG
  go_wp2_with fail
  refine e1.mono ?_
  rintro e wq ⟨rfl, m1, rfl⟩
  clear e1
  go_wp2_with fail
  refine (e2 m1).mono ?_
  rintro e wq ⟨rfl, m2, rfl⟩
  clear e2
  go_wp2
  go_loopw [25] (fun i wr => ∃ k : Nat, k ≤ np ∧ i = .int .i64 k ∧ Below w2.heap.size w2 wr) (fun i _ => np - (intOf i).toNat)
  case atStart => exact ⟨0, Nat.zero_le _, rfl, below_drewN (Below.refl _ _) _⟩
  case round =>
    obtain ⟨k, hk, rfl, hB⟩ := hrel
    have HB : Hid (Below w2.heap.size w2 wr) := hB
    clear hB
    by_cases hlt : k < np
    · rcases S2.out with e | ⟨b, off, rfl, hc⟩
      · omega
      have q1 := (HB.out.cell (p := ⟨b, off + k, none⟩) (World.block_lt_of_cell? w2 _ (hc k hlt))).trans (hc k hlt)
      obtain ⟨gp, rfl, q2⟩ := got_cell O2.out hlt HB.out
      have eqp := fun m => eq_at l g (Q k + 1) (cap - (Q k + 1)) (p k) (wr.drewN m) hn (L2.out.below (HG2.out) (below_drewN HB.out m)) (H5.out k hlt)
      clear hc
      go_wp2
      go_quiet ((go_at_call 11; exact Calls.quiet_of (eqp _)))
      go_wp2
      go_roundw
      case rel => exact ⟨k + 1, by omega, by go_num, below_drewN HB.out _⟩
      case measure => simp [intOf]; omega
    · go_wp2
      go_ret
      exact ⟨rfl, W2.out.trans (HB.out.mono W2.out.size)⟩
#print axioms law_any
end Go.Proofs.Qxb6001548a
