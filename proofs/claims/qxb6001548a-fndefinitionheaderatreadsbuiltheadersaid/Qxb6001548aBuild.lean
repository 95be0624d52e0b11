/-
  THE CONTRACT OF buildHeader (9).
-/
import Derived.Test.Qxb6001548aApp
import Derived.Test.Qxb6001548aShape
import Derived.Test.Qxb6001548aSizes
namespace Go.Proofs.Qxb6001548a
open Go.RowKit Go.ChangeShapes Go.WideShapes Go.ChangeAt

theorem sumTo_le {p : Nat → ByteArray} {k n : Nat} (h : k ≤ n) : sumTo p k ≤ sumTo p n := by
  induction n with
  | zero => obtain rfl : k = 0 := by omega
            exact Nat.le_refl _
  | succ n ih =>
    rcases Nat.lt_or_ge k (n + 1) with h' | h'
    · have := ih (by omega); simp only [sumTo]; omega
    · obtain rfl : k = n + 1 := by omega
      exact Nat.le_refl _
theorem sumTo_succ (p : Nat → ByteArray) (k : Nat) : sumTo p (k + 1) = sumTo p k + (p k).size := rfl

theorem Src.below {w0 w : World} {base : Nat} {ao : Option Addr} {m cp : Nat} {s : List Int} (h : Src w0 ao m cp s) (hb : base = w0.heap.size) (hB : Below base w0 w) : Src w ao m cp s := by
  obtain ⟨h1, h2, h3⟩ := h
  refine ⟨h1, h2, ?_⟩
  rcases h3 with h3 | ⟨b, off, e, hc⟩
  · exact .inl h3
  · exact .inr ⟨b, off, e, fun k hk => (hB.cell (p := ⟨b, off + k, none⟩) (by rw [hb]; exact World.block_lt_of_cell? w0 _ (hc k hk))).trans (hc k hk)⟩

/-- the codes of the blanks, asked for in a later world -/
def Codes (w : World) (ab : Option Addr) (nk : Nat) (fb : Nat → Int) : Prop :=
  (nk = 0 ∨ ∃ b off, ab = some ⟨b, off, none⟩ ∧ ∀ k, k < nk → w.cell? ⟨b, off + k, none⟩ = some (.int .u8 (fb k))) ∧ ∀ k, k < nk → 0 ≤ fb k ∧ fb k ≤ 255
theorem Codes.below {w0 w : World} {ab : Option Addr} {nk : Nat} {fb : Nat → Int} (h : Codes w0 ab nk fb) (hB : Below w0.heap.size w0 w) : Codes w ab nk fb := by
  obtain ⟨h1, h2⟩ := h
  refine ⟨?_, h2⟩
  rcases h1 with h3 | ⟨b, off, e, hc⟩
  · exact .inl h3
  · exact .inr ⟨b, off, e, fun k hk => (hB.cell (p := ⟨b, off + k, none⟩) (World.block_lt_of_cell? w0 _ (hc k hk))).trans (hc k hk)⟩
/-- siteBlanks, at the row as it stands -/
theorem site_at {w0 w : World} {N : Nat} {v : Value} {l : List Int} {ab : Option Addr} {nk ck : Nat} {fb : Nat → Int} (hk : Codes w0 ab nk fb) (hnk : nk ≤ 100000000) (lo : Nat) (site : Int) (h : Cur w0 w w0.heap.size v l N) (hlo : lo ≤ 1) (hsite : 0 ≤ site ∧ site ≤ 1000000) (hN : N ≤ 40000000) :
    Calls Try.prog 18 #[v, .slice ab nk ck, .int .i64 site, .int .i64 lo] w (Blk w0 w0.heap.size l N lo (lo + 3)) := by
  obtain ⟨site, rfl⟩ : ∃ s : Nat, site = s := ⟨site.toNat, by omega⟩
  exact site_any w0 w w0.heap.size N lo site nk ck ab v l fb hlo (by omega) hnk hN h (hk.below h.2.2.2).1 hk.2

theorem btl_DEF : btl { data := #[47, 42, 35, 68, 69, 70, 73, 78, 69] } = DEF := by decide +kernel
theorem btl_CLS : btl { data := #[67, 76, 65, 83, 83, 40] } = CLS := by decide +kernel
theorem btl_DIS : btl { data := #[68, 73, 83, 65, 66, 76, 69, 68] } = DIS := by decide +kernel

/-- What buildHeader leaves. -/
def Built (w : World) (n0 : Nat) (name cls : ByteArray) (P : Nat → ByteArray) (np : Nat) (dis crlf : Bool) (e : Ending) (w' : World) : Prop :=
  ∃ v l fin, e = .returned (.tuple #[v, .int .i64 ((fin : Nat) : Int)]) ∧ Cur w w' w.heap.size v l 2000000 ∧ Hdr l n0 name cls P np dis crlf fin

theorem built_mk {w w' : World} {n0 np n9 N : Nat} {name cls : ByteArray} {p : Nat → ByteArray} {dis crlf : Bool} {L0 X b1 b2 b3 b4 b5 eol pre suf L l : List Int} {v : Value}
    (hpre : pre.length = n0) (e0 : L0 = pre ++ DEF ++ b1 ++ btl name ++ [40] ++ b2) (k1 : ∀ x ∈ b1, bl x) (k2 : ∀ x ∈ b2, bl x) (hb1 : 1 ≤ b1.length) (hX : Items (L0 ++ X) p np L0.length (L0 ++ X).length)
    (hb3 : 1 ≤ b3.length) (k3 : ∀ x ∈ b3, bl x) (hdis : (dis = true ∧ 1 ≤ b4.length ∧ ∃ D, b4 = D ++ DIS ∧ 1 ≤ D.length ∧ ∀ x ∈ D, bl x) ∨ (dis = false ∧ b4 = [])) (k5 : ∀ x ∈ b5, bl x)
    (heol : (crlf = true ∧ eol = [13, 10]) ∨ (crlf = false ∧ eol = [10])) (e9 : L.length = n9) (dA : Cur w w' w.heap.size v l N) (hN : N ≤ 2000000)
    (hl : l = L0 ++ X ++ [41] ++ b3 ++ CLS ++ btl cls ++ [41] ++ b4 ++ b5 ++ eol ++ suf ∧ L = L0 ++ X ++ [41] ++ b3 ++ CLS ++ btl cls ++ [41] ++ b4 ++ b5 ++ eol) :
    Built w n0 name cls p np dis crlf (.returned (.tuple #[v, .int .i64 (n9 : Int)])) w' := by
  subst hpre
  refine ⟨v, l, n9, rfl, dA.le hN, ?_⟩
  rw [← e9, hl.2]
  exact Hdr.of_texts e0 hb1 k1 k2 hX hb3 k3 hdis k5 heol hl.1

set_option maxRecDepth 20000 in
set_option maxHeartbeats 4000000 in
theorem build_any (a0 ap ab az : Option Addr) (n0 c0 np cp nk ck nz cz : Nat) (name cls : ByteArray) (dis crlf : Bool) (p : Nat → ByteArray) (pre suf : List Int) (fb : Nat → Int) (w : World)
    (hsum : n0 + name.size + cls.size + nz + nk + 16 * np + sumTo p np ≤ 1048576) (hpre : Src w a0 n0 c0 pre) (hsuf : Src w az nz cz suf) (hk : Codes w ab nk fb) (hs : Strs w ap np p) :
    Calls Try.prog 9 #[.slice a0 n0 c0, .string name, .slice ap np cp, .string cls, .bool dis, .slice ab nk ck, .bool crlf, .bool false, .int .u8 0, .slice az nz cz] w (Built w n0 name cls p np dis crlf) := by
  obtain ⟨i0, hi, hz0, hz1, hz2⟩ := info_parts Try.info5
  have HS : Hid (Strs w ap np p) := hs
  have HK : Hid (Codes w ab nk fb) := hk
  have HE : Hid (Src w a0 n0 c0 pre) := hpre
  have HF : Hid (Src w az nz cz suf) := hsuf
  have hsm := @sumTo_le p 0 np (Nat.zero_le _)
  clear hs hk hpre hsuf
  go_enter Try.func9, Try.ntmps9
  go_wp2_with (first
    | (at_make; refine wpList_make_own _ rfl _ _ 22 rfl w.heap.size 5 i0 (.int .u8 0) 1 Try.underlying22 hi hz0 hz1 .i64 .i64 _ (n0 + name.size + cls.size + nz + 64) rfl rfl (by omega) (by rw [hz2]; omega) (by unfold maxLen; omega) (Nat.le_refl _) ?_; intro w1 hown0 hgrow0; have cur1 : Cur w w1 w.heap.size _ [] 0 := ⟨hown0, Nat.le_refl _, hgrow0.size, (Below.refl _ _).grown hgrow0 (Nat.le_refl _) (fun k hk => by simp at hk)⟩; clear hown0 hgrow0)
    | (at_builtin; refine wpList_ran _ rfl _ _ 22 22 rfl _ _ rfl rfl (run_app cur1 _ a0 n0 c0 pre (HE.out.below rfl cur1.2.2.2) (by omega)) ?_; intro v2 w2 cur2; clear cur1)
    | (at_builtin; refine wpList_ran _ rfl _ _ 22 9 rfl _ _ rfl rfl (run_app_str cur2 _ _ (by show 0 + n0 + 9 ≤ 100000000; omega)) ?_; intro v3 w3 cur3; clear cur2)
    | (go_at_call 18; refine (site_at HK.out (by omega) 1 0 cur3 (by omega) (by omega) (by show 0 + n0 + 9 ≤ 40000000; omega)).mono ?_; rintro e w4 ⟨v4, b1, rfl, hb1, hb1', k1, cur4⟩; clear cur3)
    | (at_builtin; refine wpList_ran _ rfl _ _ 22 9 rfl _ _ rfl rfl (run_app_str cur4 _ _ (by show 0 + n0 + 9 + (1 + 3) + name.size ≤ 100000000; omega)) ?_; intro v5 w5 cur5; clear cur4)
    | (at_builtin; refine wpList_one 40 rfl _ _ rfl rfl rfl cur5 (by show 0 + n0 + 9 + (1 + 3) + name.size + 1 ≤ 100000000; omega) ?_; intro v6 w6 cur6; clear cur5)
    | (go_at_call 18; refine (site_at HK.out (by omega) 0 1 cur6 (by omega) (by omega) (by show 0 + n0 + 9 + (1 + 3) + name.size + 1 ≤ 40000000; omega)).mono ?_; rintro e w7 ⟨v7, b2, rfl, hb2, hb2', k2, cur7⟩; clear cur6))
  obtain ⟨L0, hL0⟩ : ∃ L0, L0 = pre ++ DEF ++ b1 ++ btl name ++ [40] ++ b2 := ⟨_, rfl⟩
  have curL : Cur w w7 w.heap.size v7 L0 (n0 + name.size + 20) := by
    rw [hL0, ← btl_DEF]
    exact Cur.le cur7 (show 0 + n0 + 9 + (1 + 3) + name.size + 1 + (0 + 3) ≤ n0 + name.size + 20 by omega)
  have HL : Hid (L0 = pre ++ DEF ++ b1 ++ btl name ++ [40] ++ b2) := hL0
  have K1 : Hid (∀ x ∈ b1, bl x) := k1
  have K2 : Hid (∀ x ∈ b2, bl x) := k2
  clear cur7 hL0 k1 k2 hi hz0 hz1 hz2
  go_loopw [22, 23, 24] (fun v st i wr => ∃ (k q : Nat) (X : List Int), k ≤ np ∧ q ≤ 2 + 2 * k ∧ i = .int .i64 k ∧ st = .int .i64 q ∧ Cur w wr w.heap.size v (L0 ++ X) (n0 + name.size + 20 + 16 * k + sumTo p k) ∧ Items (L0 ++ X) p k L0.length (L0 ++ X).length) (fun _ _ i _ => np - (intOf i).toNat)
  case atStart => exact ⟨0, 2, [], Nat.zero_le _, by omega, rfl, rfl, by rw [List.append_nil]; exact curL, by rw [List.append_nil]; exact Items.none _ _ _⟩
  case round =>
    obtain ⟨k, q, X, hk, hq, rfl, rfl, cur, hI⟩ := hrel
    have HI : Hid (Items (L0 ++ X) p k L0.length (L0 ++ X).length) := hI
    clear curL hI
    have hsk := @sumTo_le p k np hk
    by_cases hlt : k < np
    · rcases HS.out with e | ⟨b, off, rfl, hc⟩
      · omega
      have hck0 := hc k hlt
      have hlt' := World.block_lt_of_cell? w _ hck0
      have hsk1 := @sumTo_le p (k + 1) np hlt
      have hs1 := sumTo_succ p k
      have hbd : n0 + name.size + 20 + 16 * k + sumTo p k + (p k).size ≤ 1100000 := by omega
      have HB : Hid (n0 + name.size + 20 + 16 * k + sumTo p k + (p k).size + 16 = n0 + name.size + 20 + 16 * (k + 1) + sumTo p (k + 1)) := by show _ = _; omega
      clear hc hs1 hsk1
      generalize n0 + name.size + 20 + 16 * k + sumTo p k = N at cur hbd HB
      by_cases h0 : 0 < k
      · go_wp2_with (first
          | (at_builtin; refine wpList_one 44 rfl _ _ rfl rfl rfl cur (by omega) ?_; intro t1 x1 d1; clear cur)
          | (go_at_call 18; refine (site_at HK.out (by omega) 0 _ d1 (by omega) (by omega) (by omega)).mono ?_; rintro e x2 ⟨t2, s1, rfl, hs1, hs1', k3, d2⟩; clear d1)
          | (at_builtin; refine wpList_one 35 rfl _ _ rfl rfl rfl d2 (by omega) ?_; intro t3 x3 d3; clear d2; have hck := (d3.2.2.2.cell (p := ⟨b, off + k, none⟩) hlt').trans hck0)
          | (at_builtin; refine wpList_ran _ rfl _ _ 22 9 rfl _ _ rfl rfl (run_app_str d3 _ (p k) (by omega)) ?_; intro t4 x4 d4; clear d3)
          | (at_builtin; refine wpList_one 35 rfl _ _ rfl rfl rfl d4 (by omega) ?_; intro t5 x5 d5; clear d4)
          | (go_at_call 18; refine (site_at HK.out (by omega) 0 _ d5 (by omega) (by omega) (by omega)).mono ?_; rintro e x6 ⟨t6, s2, rfl, hs2, hs2', k4, d6⟩; clear d5))
        have eX : L0 ++ (X ++ [44] ++ s1 ++ [35] ++ btl (p k) ++ [35] ++ s2) = L0 ++ X ++ [44] ++ s1 ++ [35] ++ btl (p k) ++ [35] ++ s2 := by simp
        go_roundw
        case rel => exact ⟨k + 1, q + 2, X ++ [44] ++ s1 ++ [35] ++ btl (p k) ++ [35] ++ s2, by omega, by omega, by go_num, by go_num, by rw [eX]; exact d6.le (by have := HB.out; omega), by rw [eX]; exact HI.out.next h0 k3 k4⟩
        case measure => simp [intOf]; omega
      · obtain rfl : k = 0 := by omega
        go_wp2_with (first
          | (at_builtin; refine wpList_one 35 rfl _ _ rfl rfl rfl cur (by omega) ?_; intro t3 x3 d3; clear cur; have hck := (d3.2.2.2.cell (p := ⟨b, off + 0, none⟩) hlt').trans hck0; rw [Nat.add_zero] at hck)
          | (at_builtin; refine wpList_ran _ rfl _ _ 22 9 rfl _ _ rfl rfl (run_app_str d3 _ (p 0) (by omega)) ?_; intro t4 x4 d4; clear d3)
          | (at_builtin; refine wpList_one 35 rfl _ _ rfl rfl rfl d4 (by omega) ?_; intro t5 x5 d5; clear d4)
          | (go_at_call 18; refine (site_at HK.out (by omega) 0 _ d5 (by omega) (by omega) (by omega)).mono ?_; rintro e x6 ⟨t6, s2, rfl, hs2, hs2', k4, d6⟩; clear d5))
        have eX : L0 ++ (X ++ [35] ++ btl (p 0) ++ [35] ++ s2) = L0 ++ X ++ [35] ++ btl (p 0) ++ [35] ++ s2 := by simp
        go_roundw
        case rel => exact ⟨1, q + 1, X ++ [35] ++ btl (p 0) ++ [35] ++ s2, by omega, by omega, by go_num, by go_num, by rw [eX]; exact d6.le (by have := HB.out; simp only [Nat.zero_add] at this; omega), by rw [eX]; exact HI.out.first k4⟩
        case measure => simp [intOf]; omega
    · obtain rfl : np = k := by omega
      clear hlt hsk hk HS
      cases dis with
      | true =>
        cases crlf with
        | true =>
          go_wp2_with (first
            | (at_builtin; refine wpList_one 41 rfl _ _ rfl rfl rfl cur (by omega) ?_; intro t1 x1 d1; clear cur)
            | (go_at_call 18; refine (site_at HK.out (by omega) 1 _ d1 (by omega) (by omega) (by omega)).mono ?_; rintro e x2 ⟨t2, b3, rfl, hb3, hb3', k3, d2⟩; clear d1)
            | (at_builtin; refine wpList_ran _ rfl _ _ 22 9 rfl _ _ rfl rfl (run_app_str d2 _ _ (by show n0 + name.size + 20 + 16 * np + sumTo p np + 1 + (1 + 3) + 6 ≤ 100000000; omega)) ?_; intro t3 x3 d3; clear d2)
            | (at_builtin; refine wpList_ran _ rfl _ _ 22 9 rfl _ _ rfl rfl (run_app_str d3 _ _ (by show n0 + name.size + 20 + 16 * np + sumTo p np + 1 + (1 + 3) + 6 + cls.size ≤ 100000000; omega)) ?_; intro t4 x4 d4; clear d3)
            | (at_builtin; refine wpList_one 41 rfl _ _ rfl rfl rfl d4 (by show n0 + name.size + 20 + 16 * np + sumTo p np + 1 + (1 + 3) + 6 + cls.size + 1 ≤ 100000000; omega) ?_; intro t5 x5 d5; clear d4)
            | (go_at_call 18; refine (site_at HK.out (by omega) 1 _ d5 (by omega) (by omega) (by show n0 + name.size + 20 + 16 * np + sumTo p np + 1 + (1 + 3) + 6 + cls.size + 1 ≤ 40000000; omega)).mono ?_; rintro e x6 ⟨t6, b4, rfl, hb4, hb4', k4, d6⟩; clear d5)
            | (at_builtin; refine wpList_ran _ rfl _ _ 22 9 rfl _ _ rfl rfl (run_app_str d6 _ _ (by show n0 + name.size + 20 + 16 * np + sumTo p np + 1 + (1 + 3) + 6 + cls.size + 1 + (1 + 3) + 8 ≤ 100000000; omega)) ?_; intro t7 x7 d7; clear d6)
            | (go_at_call 18; refine (site_at HK.out (by omega) 0 _ d7 (by omega) (by omega) (by show n0 + name.size + 20 + 16 * np + sumTo p np + 1 + (1 + 3) + 6 + cls.size + 1 + (1 + 3) + 8 ≤ 40000000; omega)).mono ?_; rintro e x8 ⟨t8, b5, rfl, hb5, hb5', k5, d8⟩; clear d7)
            | (at_builtin; refine wpList_two_shape 13 10 rfl _ _ rfl rfl rfl d8 (by show n0 + name.size + 20 + 16 * np + sumTo p np + 1 + (1 + 3) + 6 + cls.size + 1 + (1 + 3) + 8 + (0 + 3) + 2 ≤ 100000000; omega) ?_; intro g9 c9 n9 x9 d9 hn9 e9; replace hn9 : n9 ≤ n0 + name.size + 20 + 16 * np + sumTo p np + 1 + (1 + 3) + 6 + cls.size + 1 + (1 + 3) + 8 + (0 + 3) + 2 := hn9; clear d8)
            | (at_builtin; refine wpList_ran _ rfl _ _ 22 22 rfl _ _ rfl rfl (run_app d9 _ az nz cz suf (HF.out.below rfl d9.2.2.2) (by show n0 + name.size + 20 + 16 * np + sumTo p np + 1 + (1 + 3) + 6 + cls.size + 1 + (1 + 3) + 8 + (0 + 3) + 2 + nz ≤ 100000000; omega)) ?_; intro vA xA dA; clear d9))
          go_ret2
          refine built_mk (suf := suf) HE.out.1 HL.out K1.out K2.out hb1 HI.out hb3 k3 (b4 := b4 ++ DIS) (.inl ⟨rfl, by simp [DIS], b4, rfl, hb4, k4⟩) k5 (eol := [13, 10]) (.inl ⟨rfl, rfl⟩) e9.out dA ?_ ?_
          · show n0 + name.size + 20 + 16 * np + sumTo p np + 1 + (1 + 3) + 6 + cls.size + 1 + (1 + 3) + 8 + (0 + 3) + 2 + nz ≤ 2000000; omega
          · rw [← btl_CLS, ← btl_DIS]; simp
        | false =>
          go_wp2_with (first
            | (at_builtin; refine wpList_one 41 rfl _ _ rfl rfl rfl cur (by omega) ?_; intro t1 x1 d1; clear cur)
            | (go_at_call 18; refine (site_at HK.out (by omega) 1 _ d1 (by omega) (by omega) (by omega)).mono ?_; rintro e x2 ⟨t2, b3, rfl, hb3, hb3', k3, d2⟩; clear d1)
            | (at_builtin; refine wpList_ran _ rfl _ _ 22 9 rfl _ _ rfl rfl (run_app_str d2 _ _ (by show n0 + name.size + 20 + 16 * np + sumTo p np + 1 + (1 + 3) + 6 ≤ 100000000; omega)) ?_; intro t3 x3 d3; clear d2)
            | (at_builtin; refine wpList_ran _ rfl _ _ 22 9 rfl _ _ rfl rfl (run_app_str d3 _ _ (by show n0 + name.size + 20 + 16 * np + sumTo p np + 1 + (1 + 3) + 6 + cls.size ≤ 100000000; omega)) ?_; intro t4 x4 d4; clear d3)
            | (at_builtin; refine wpList_one 41 rfl _ _ rfl rfl rfl d4 (by show n0 + name.size + 20 + 16 * np + sumTo p np + 1 + (1 + 3) + 6 + cls.size + 1 ≤ 100000000; omega) ?_; intro t5 x5 d5; clear d4)
            | (go_at_call 18; refine (site_at HK.out (by omega) 1 _ d5 (by omega) (by omega) (by show n0 + name.size + 20 + 16 * np + sumTo p np + 1 + (1 + 3) + 6 + cls.size + 1 ≤ 40000000; omega)).mono ?_; rintro e x6 ⟨t6, b4, rfl, hb4, hb4', k4, d6⟩; clear d5)
            | (at_builtin; refine wpList_ran _ rfl _ _ 22 9 rfl _ _ rfl rfl (run_app_str d6 _ _ (by show n0 + name.size + 20 + 16 * np + sumTo p np + 1 + (1 + 3) + 6 + cls.size + 1 + (1 + 3) + 8 ≤ 100000000; omega)) ?_; intro t7 x7 d7; clear d6)
            | (go_at_call 18; refine (site_at HK.out (by omega) 0 _ d7 (by omega) (by omega) (by show n0 + name.size + 20 + 16 * np + sumTo p np + 1 + (1 + 3) + 6 + cls.size + 1 + (1 + 3) + 8 ≤ 40000000; omega)).mono ?_; rintro e x8 ⟨t8, b5, rfl, hb5, hb5', k5, d8⟩; clear d7)
            | (at_builtin; refine wpList_one_shape 10 rfl _ _ rfl rfl rfl d8 (by show n0 + name.size + 20 + 16 * np + sumTo p np + 1 + (1 + 3) + 6 + cls.size + 1 + (1 + 3) + 8 + (0 + 3) + 1 ≤ 100000000; omega) ?_; intro g9 c9 n9 x9 d9 hn9 e9; replace hn9 : n9 ≤ n0 + name.size + 20 + 16 * np + sumTo p np + 1 + (1 + 3) + 6 + cls.size + 1 + (1 + 3) + 8 + (0 + 3) + 1 := hn9; clear d8)
            | (at_builtin; refine wpList_ran _ rfl _ _ 22 22 rfl _ _ rfl rfl (run_app d9 _ az nz cz suf (HF.out.below rfl d9.2.2.2) (by show n0 + name.size + 20 + 16 * np + sumTo p np + 1 + (1 + 3) + 6 + cls.size + 1 + (1 + 3) + 8 + (0 + 3) + 1 + nz ≤ 100000000; omega)) ?_; intro vA xA dA; clear d9))
          go_ret2
          refine built_mk (suf := suf) HE.out.1 HL.out K1.out K2.out hb1 HI.out hb3 k3 (b4 := b4 ++ DIS) (.inl ⟨rfl, by simp [DIS], b4, rfl, hb4, k4⟩) k5 (eol := [10]) (.inr ⟨rfl, rfl⟩) e9.out dA ?_ ?_
          · show n0 + name.size + 20 + 16 * np + sumTo p np + 1 + (1 + 3) + 6 + cls.size + 1 + (1 + 3) + 8 + (0 + 3) + 1 + nz ≤ 2000000; omega
          · rw [← btl_CLS, ← btl_DIS]; simp
      | false =>
        cases crlf with
        | true =>
          go_wp2_with (first
            | (at_builtin; refine wpList_one 41 rfl _ _ rfl rfl rfl cur (by omega) ?_; intro t1 x1 d1; clear cur)
            | (go_at_call 18; refine (site_at HK.out (by omega) 1 _ d1 (by omega) (by omega) (by omega)).mono ?_; rintro e x2 ⟨t2, b3, rfl, hb3, hb3', k3, d2⟩; clear d1)
            | (at_builtin; refine wpList_ran _ rfl _ _ 22 9 rfl _ _ rfl rfl (run_app_str d2 _ _ (by show n0 + name.size + 20 + 16 * np + sumTo p np + 1 + (1 + 3) + 6 ≤ 100000000; omega)) ?_; intro t3 x3 d3; clear d2)
            | (at_builtin; refine wpList_ran _ rfl _ _ 22 9 rfl _ _ rfl rfl (run_app_str d3 _ _ (by show n0 + name.size + 20 + 16 * np + sumTo p np + 1 + (1 + 3) + 6 + cls.size ≤ 100000000; omega)) ?_; intro t4 x4 d4; clear d3)
            | (at_builtin; refine wpList_one 41 rfl _ _ rfl rfl rfl d4 (by show n0 + name.size + 20 + 16 * np + sumTo p np + 1 + (1 + 3) + 6 + cls.size + 1 ≤ 100000000; omega) ?_; intro t5 x5 d5; clear d4)
            | (go_at_call 18; refine (site_at HK.out (by omega) 0 _ d5 (by omega) (by omega) (by show n0 + name.size + 20 + 16 * np + sumTo p np + 1 + (1 + 3) + 6 + cls.size + 1 ≤ 40000000; omega)).mono ?_; rintro e x8 ⟨t8, b5, rfl, hb5, hb5', k5, d8⟩; clear d5)
            | (at_builtin; refine wpList_two_shape 13 10 rfl _ _ rfl rfl rfl d8 (by show n0 + name.size + 20 + 16 * np + sumTo p np + 1 + (1 + 3) + 6 + cls.size + 1 + (0 + 3) + 2 ≤ 100000000; omega) ?_; intro g9 c9 n9 x9 d9 hn9 e9; replace hn9 : n9 ≤ n0 + name.size + 20 + 16 * np + sumTo p np + 1 + (1 + 3) + 6 + cls.size + 1 + (0 + 3) + 2 := hn9; clear d8)
            | (at_builtin; refine wpList_ran _ rfl _ _ 22 22 rfl _ _ rfl rfl (run_app d9 _ az nz cz suf (HF.out.below rfl d9.2.2.2) (by show n0 + name.size + 20 + 16 * np + sumTo p np + 1 + (1 + 3) + 6 + cls.size + 1 + (0 + 3) + 2 + nz ≤ 100000000; omega)) ?_; intro vA xA dA; clear d9))
          go_ret2
          refine built_mk (suf := suf) HE.out.1 HL.out K1.out K2.out hb1 HI.out hb3 k3 (b4 := []) (.inr ⟨rfl, rfl⟩) k5 (eol := [13, 10]) (.inl ⟨rfl, rfl⟩) e9.out dA ?_ ?_
          · show n0 + name.size + 20 + 16 * np + sumTo p np + 1 + (1 + 3) + 6 + cls.size + 1 + (0 + 3) + 2 + nz ≤ 2000000; omega
          · rw [← btl_CLS]; simp
        | false =>
          go_wp2_with (first
            | (at_builtin; refine wpList_one 41 rfl _ _ rfl rfl rfl cur (by omega) ?_; intro t1 x1 d1; clear cur)
            | (go_at_call 18; refine (site_at HK.out (by omega) 1 _ d1 (by omega) (by omega) (by omega)).mono ?_; rintro e x2 ⟨t2, b3, rfl, hb3, hb3', k3, d2⟩; clear d1)
            | (at_builtin; refine wpList_ran _ rfl _ _ 22 9 rfl _ _ rfl rfl (run_app_str d2 _ _ (by show n0 + name.size + 20 + 16 * np + sumTo p np + 1 + (1 + 3) + 6 ≤ 100000000; omega)) ?_; intro t3 x3 d3; clear d2)
            | (at_builtin; refine wpList_ran _ rfl _ _ 22 9 rfl _ _ rfl rfl (run_app_str d3 _ _ (by show n0 + name.size + 20 + 16 * np + sumTo p np + 1 + (1 + 3) + 6 + cls.size ≤ 100000000; omega)) ?_; intro t4 x4 d4; clear d3)
            | (at_builtin; refine wpList_one 41 rfl _ _ rfl rfl rfl d4 (by show n0 + name.size + 20 + 16 * np + sumTo p np + 1 + (1 + 3) + 6 + cls.size + 1 ≤ 100000000; omega) ?_; intro t5 x5 d5; clear d4)
            | (go_at_call 18; refine (site_at HK.out (by omega) 0 _ d5 (by omega) (by omega) (by show n0 + name.size + 20 + 16 * np + sumTo p np + 1 + (1 + 3) + 6 + cls.size + 1 ≤ 40000000; omega)).mono ?_; rintro e x8 ⟨t8, b5, rfl, hb5, hb5', k5, d8⟩; clear d5)
            | (at_builtin; refine wpList_one_shape 10 rfl _ _ rfl rfl rfl d8 (by show n0 + name.size + 20 + 16 * np + sumTo p np + 1 + (1 + 3) + 6 + cls.size + 1 + (0 + 3) + 1 ≤ 100000000; omega) ?_; intro g9 c9 n9 x9 d9 hn9 e9; replace hn9 : n9 ≤ n0 + name.size + 20 + 16 * np + sumTo p np + 1 + (1 + 3) + 6 + cls.size + 1 + (0 + 3) + 1 := hn9; clear d8)
            | (at_builtin; refine wpList_ran _ rfl _ _ 22 22 rfl _ _ rfl rfl (run_app d9 _ az nz cz suf (HF.out.below rfl d9.2.2.2) (by show n0 + name.size + 20 + 16 * np + sumTo p np + 1 + (1 + 3) + 6 + cls.size + 1 + (0 + 3) + 1 + nz ≤ 100000000; omega)) ?_; intro vA xA dA; clear d9))
          go_ret2
          refine built_mk (suf := suf) HE.out.1 HL.out K1.out K2.out hb1 HI.out hb3 k3 (b4 := []) (.inr ⟨rfl, rfl⟩) k5 (eol := [10]) (.inr ⟨rfl, rfl⟩) e9.out dA ?_ ?_
          · show n0 + name.size + 20 + 16 * np + sumTo p np + 1 + (1 + 3) + 6 + cls.size + 1 + (0 + 3) + 1 + nz ≤ 2000000; omega
          · rw [← btl_CLS]; simp
#print axioms build_any
end Go.Proofs.Qxb6001548a
