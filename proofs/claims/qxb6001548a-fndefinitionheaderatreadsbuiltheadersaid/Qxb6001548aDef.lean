/-
  THE CONTRACT OF definitionHeaderAt (19) AT A HEADER THAT STANDS.
-/
import Derived.Test.Qxb6001548aCalls
import Derived.Deep.DeepCutAuto
import Derived.Deep.LoopGhost
namespace Go.Proofs.Qxb6001548a
open Go.RowKit Go.ChangeShapes Go.WideShapes Go.ChangeAt

theorem dl_DEF : btl { data := #[47, 42, 35, 68, 69, 70, 73, 78, 69] } = DEF := by decide +kernel
theorem dl_CLS : btl { data := #[67, 76, 65, 83, 83, 40] } = CLS := by decide +kernel
theorem dl_DIS : btl { data := #[68, 73, 83, 65, 66, 76, 69, 68] } = DIS := by decide +kernel
theorem dl_open : btl { data := #[40] } = [40] := by decide +kernel
theorem dl_close : btl { data := #[41] } = [41] := by decide +kernel
theorem dl_comma : btl { data := #[44] } = [44] := by decide +kernel
theorem dl_crlf : btl { data := #[13, 10] } = [13, 10] := by decide +kernel
theorem dl_lf : btl { data := #[10] } = [10] := by decide +kernel

/-- the slices into the row that the parameters read as -/
def sls (g cap : Nat) (P : Nat → ByteArray) (Q : Nat → Nat) (k : Nat) : List Value := (List.range k).map fun t => Value.slice (some ⟨g, Q t + 1, none⟩) (P t).size (cap - (Q t + 1))

/-- a name begins by a byte that is no blank -/
theorem VN.head {s : ByteArray} {d : Bool} (h : VN s d) : ∃ x r, btl s = x :: r ∧ ¬ bl x := by
  refine ⟨bt s 0, (btl s).tail, ?_, ?_⟩
  · have : 0 < (btl s).length := by rw [btl_length]; exact h.1
    cases e : btl s with
    | nil => rw [e] at this; simp at this
    | cons x r =>
      have h0 := btl_get h.1
      rw [e] at h0
      simp at h0
      rw [h0]; rfl
  · have := h.2.2 0 h.1
    unfold nb at this
    unfold bl
    omega

/-- behind the append of a parameter: the struct's block is as it was -/
theorem after_app {wr w' : World} {B k cp base : Nat} {po : Option Addr} {c : Array Value} {xs : List Value} {o : Obj} (h1 : wr.heap[B]? = some (.cells c 41 (0, 0))) (h2 : wr.ownsRow base 22 1 (.slice po k cp) k xs) (hB : B < base)
    (hgr : ((wr.alloc o).drew).grownBy w' (Value.slice po k cp).ownBlock) : w'.heap[B]? = some (.cells c 41 (0, 0)) ∧ (∀ j, w'.cell? ⟨B, j, none⟩ = c[j]?) ∧ ∀ j, w'.frozen? ⟨B, j, none⟩ = false := by
  have hlt : B < wr.heap.size := (Array.getElem?_eq_some_iff.1 h1).1
  have e : w'.heap[B]? = some (.cells c 41 (0, 0)) := by
    rw [hgr.block B (by show B < (wr.alloc o).heap.size; simp; omega) (fun e => by have := (h2.lt B e.symm).1; omega)]
    exact (Below.heap_alloc wr o B hlt).trans h1
  exact ⟨e, fun j => cell_of_row w' B j c 41 (0, 0) e, fun j => by simp [World.frozen?, e]⟩

/-- WHAT STANDS IN MEMORY while the header is read: the struct in block B, k parameters in a row of their own -/
def PS (g cap : Nat) (P : Nat → ByteArray) (Q : Nat → Nat) (B : Nat) (nm : Value) (w wx : World) (po : Option Addr) (k cp : Nat) : Prop :=
  wx.heap[B]? = some (.cells #[nm, .slice none 0 0, .slice po k cp, .bool false, .int .i64 0] 41 (0, 0)) ∧ wx.ownsRow (B + 1) 22 1 (.slice po k cp) k (sls g cap P Q k) ∧ Below B w wx ∧ B + 1 ≤ wx.heap.size

theorem sls_succ (g cap : Nat) (P : Nat → ByteArray) (Q : Nat → Nat) (k : Nat) : sls g cap P Q (k + 1) = sls g cap P Q k ++ [.slice (some ⟨g, Q k + 1, none⟩) (P k).size (cap - (Q k + 1))] := by
  unfold sls
  rw [List.range_succ, List.map_append]
  rfl

theorem ps_next {g cap B k cp g' cap' : Nat} {P : Nat → ByteArray} {Q : Nat → Nat} {nm : Value} {w wr w' : World} {po : Option Addr} {o : Obj}
    (h2 : wr.ownsRow (B + 1) 22 1 (.slice po k cp) k (sls g cap P Q k)) (h3 : Below B w wr) (h4 : B + 1 ≤ wr.heap.size)
    (hbk : w'.heap[B]? = some (.cells #[nm, .slice none 0 0, .slice po k cp, .bool false, .int .i64 0] 41 (0, 0)))
    (ho : w'.ownsRow (B + 1) 22 1 (.slice (some ⟨g', 0, none⟩) (k + 1) cap') (k + 1) (sls g cap P Q k ++ [.slice (some ⟨g, Q k + 1, none⟩) (P k).size (cap - (Q k + 1))]))
    (hgr : ((wr.alloc o).drew).grownBy w' (Value.slice po k cp).ownBlock) :
    PS g cap P Q B nm w (w'.setCell ⟨B, 2, none⟩ (.slice (some ⟨g', 0, none⟩) (k + 1) cap')) (some ⟨g', 0, none⟩) (k + 1) cap' := by
  have hsz : (wr.alloc o).heap.size = wr.heap.size + 1 := by simp
  have hs : wr.heap.size + 1 ≤ w'.heap.size := by rw [← hsz]; exact hgr.size
  refine ⟨?_, ?_, ?_, ?_⟩
  · rw [heap_setCell_same w' B 2 _ 41 _ hbk]; rfl
  · rw [sls_succ]; exact ownsRow_setCell_below ho (Nat.lt_succ_self _) _
  · refine Below.setCell (p := ⟨B, 2, none⟩) ?_ (Nat.le_refl B) _
    refine ((h3.alloc (by omega) o).drew).grown hgr (by show B ≤ (wr.alloc o).heap.size; omega) (fun j hj => by have := (h2.lt j hj).1; omega)
  · simp; omega

/-- the end of the blanks behind a parameter -/
theorem c_blank1 {l : List Int} {cap np a5 : Nat} {P : Nat → ByteArray} {Q J : Nat → Nat} {k a4 : Nat} (hf : Fit l cap) (i1 : ∀ t, t < np → Item l (Q t) (P t) (J t)) (i2 : ∀ t, t + 1 < np → Link l (J t) (Q (t + 1))) (i4 : 0 < np → Q 0 = a4 ∧ J (np - 1) = a5)
    (h8 : Txt l a5 [41]) (hk : k < np) (g : Nat) (w : World) (hl : Lies w g l) (i : Int) (hi : i = ((Q k + (P k).size + 2 : Nat) : Int)) :
    Calls Try.prog 23 #[.slice (some ⟨g, 0, none⟩) l.length cap, .int .i64 i] w fun e w' => e = .returned (.int .i64 (J k)) ∧ w = w' := by
  by_cases h : k + 1 < np
  · exact c_blank hf (i1 k hk).2 (i2 k h).1 (by unfold bl; omega) g w hl i hi
  · have e : k = np - 1 := by omega
    have h8' : Txt l (J k) [41] := by rw [e, (i4 (by omega)).2]; exact h8
    exact c_blank hf (i1 k hk).2 h8' (by unfold bl; omega) g w hl i hi

/-- What definitionHeaderAt leaves: the parts, as slices into the row. -/
def DefPost (l : List Int) (g cap np fin : Nat) (name cls : ByteArray) (P : Nat → ByteArray) (dis : Bool) (w : World) (e : Ending) (w' : World) : Prop :=
  ∃ (po : Option Addr) (cp a b : Nat) (Q : Nat → Nat), e = .returned (.tuple #[.agg #[.slice (some ⟨g, a, none⟩) name.size (cap - a), .slice (some ⟨g, b, none⟩) cls.size (cap - b), .slice po np cp, .bool dis, .int .i64 (fin : Int)], .bool true]) ∧
    Below w.heap.size w w' ∧ w'.ownsRow (w.heap.size + 1) 22 1 (.slice po np cp) np (sls g cap P Q np) ∧ Txt l a (btl name) ∧ Txt l b (btl cls) ∧ ∀ t, t < np → Txt l (Q t + 1) (btl (P t))

theorem Item.mid {l : List Int} {q j : Nat} {p : ByteArray} (h : Item l q p j) : Txt l (q + 1) (btl p) := by
  obtain ⟨A, R, rfl, rfl⟩ := h.1
  exact ⟨A ++ [35], [35] ++ R, by simp, by simp⟩

theorem blk_set {w : World} {B j : Nat} {cs : Array Value} {v : Value} (h : w.heap[B]? = some (.cells cs 41 (0, 0))) : (w.setCell ⟨B, j, none⟩ v).heap[B]? = some (.cells (cs.setIfInBounds j v) 41 (0, 0)) := heap_setCell_same w B j cs 41 v h
/-- the struct as a result, read out of its block -/
theorem results_h {tmps : Array Value} {W : World} {B : Nat} {c0 c1 c2 c3 c4 : Value} (h4 : tmps.getD 4 undef = .pointer (some ⟨B, 0, none⟩)) (h5 : tmps.getD 5 undef = .bool true) (hb : W.heap[B]? = some (.cells #[c0, c1, c2, c3, c4] 41 (0, 0))) :
    (results Try.f19 tmps).run Try.prog W = .ok (.tuple #[.agg #[c0, c1, c2, c3, c4], .bool true]) W := by
  have q0 : W.cell? ⟨B, 0, none⟩ = some c0 := by rw [cell_of_row W B 0 _ 41 (0, 0) hb]; rfl
  have q1 : W.cell? ⟨B, 1, none⟩ = some c1 := by rw [cell_of_row W B 1 _ 41 (0, 0) hb]; rfl
  have q2 : W.cell? ⟨B, 2, none⟩ = some c2 := by rw [cell_of_row W B 2 _ 41 (0, 0) hb]; rfl
  have q3 : W.cell? ⟨B, 3, none⟩ = some c3 := by rw [cell_of_row W B 3 _ 41 (0, 0) hb]; rfl
  have q4 : W.cell? ⟨B, 4, none⟩ = some c4 := by rw [cell_of_row W B 4 _ 41 (0, 0) hb]; rfl
  rw [Array.getD_eq_getD_getElem?] at h4 h5
  simp [results, Try.results19, go_sem, h4, h5, q0, q1, q2, q3, q4]
theorem below_set {w wc : World} {B j : Nat} {v : Value} (h : Below B w wc) : Below B w (wc.setCell ⟨B, j, none⟩ v) := h.setCell (p := ⟨B, j, none⟩) (Nat.le_refl B) v
theorem own_set {wc : World} {B j n : Nat} {v x : Value} {xs : List Value} (h : wc.ownsRow (B + 1) 22 1 x n xs) : (wc.setCell ⟨B, j, none⟩ v).ownsRow (B + 1) 22 1 x n xs := ownsRow_setCell_below h (Nat.lt_succ_self B) v

theorem fin_dis {w wc : World} {B n : Nat} {NM CL PV D F x y z v : Value} {xs : List Value} (h : wc.heap[B]? = some (.cells #[NM, x, PV, y, z] 41 (0, 0))) (hb : Below B w wc) (ho : wc.ownsRow (B + 1) 22 1 v n xs) :
    ((((((((wc.setCell ⟨B, 1, none⟩ CL).setCell ⟨B, 3, none⟩ D).setCell ⟨B, 4, none⟩ F).setCell ⟨B, 0, none⟩ NM).setCell ⟨B, 1, none⟩ CL).setCell ⟨B, 2, none⟩ PV).setCell ⟨B, 3, none⟩ D).setCell ⟨B, 4, none⟩ F).heap[B]? = some (.cells #[NM, CL, PV, D, F] 41 (0, 0)) ∧ Below B w ((((((((wc.setCell ⟨B, 1, none⟩ CL).setCell ⟨B, 3, none⟩ D).setCell ⟨B, 4, none⟩ F).setCell ⟨B, 0, none⟩ NM).setCell ⟨B, 1, none⟩ CL).setCell ⟨B, 2, none⟩ PV).setCell ⟨B, 3, none⟩ D).setCell ⟨B, 4, none⟩ F) ∧ ((((((((wc.setCell ⟨B, 1, none⟩ CL).setCell ⟨B, 3, none⟩ D).setCell ⟨B, 4, none⟩ F).setCell ⟨B, 0, none⟩ NM).setCell ⟨B, 1, none⟩ CL).setCell ⟨B, 2, none⟩ PV).setCell ⟨B, 3, none⟩ D).setCell ⟨B, 4, none⟩ F).ownsRow (B + 1) 22 1 v n xs := by
  have h1 : (wc.setCell ⟨B, 1, none⟩ CL).heap[B]? = some (.cells #[NM, CL, PV, y, z] 41 (0, 0)) := blk_set h
  have h2 : ((wc.setCell ⟨B, 1, none⟩ CL).setCell ⟨B, 3, none⟩ D).heap[B]? = some (.cells #[NM, CL, PV, D, z] 41 (0, 0)) := blk_set h1
  have h3 : (((wc.setCell ⟨B, 1, none⟩ CL).setCell ⟨B, 3, none⟩ D).setCell ⟨B, 4, none⟩ F).heap[B]? = some (.cells #[NM, CL, PV, D, F] 41 (0, 0)) := blk_set h2
  have h4 : ((((wc.setCell ⟨B, 1, none⟩ CL).setCell ⟨B, 3, none⟩ D).setCell ⟨B, 4, none⟩ F).setCell ⟨B, 0, none⟩ NM).heap[B]? = some (.cells #[NM, CL, PV, D, F] 41 (0, 0)) := blk_set h3
  have h5 : (((((wc.setCell ⟨B, 1, none⟩ CL).setCell ⟨B, 3, none⟩ D).setCell ⟨B, 4, none⟩ F).setCell ⟨B, 0, none⟩ NM).setCell ⟨B, 1, none⟩ CL).heap[B]? = some (.cells #[NM, CL, PV, D, F] 41 (0, 0)) := blk_set h4
  have h6 : ((((((wc.setCell ⟨B, 1, none⟩ CL).setCell ⟨B, 3, none⟩ D).setCell ⟨B, 4, none⟩ F).setCell ⟨B, 0, none⟩ NM).setCell ⟨B, 1, none⟩ CL).setCell ⟨B, 2, none⟩ PV).heap[B]? = some (.cells #[NM, CL, PV, D, F] 41 (0, 0)) := blk_set h5
  have h7 : (((((((wc.setCell ⟨B, 1, none⟩ CL).setCell ⟨B, 3, none⟩ D).setCell ⟨B, 4, none⟩ F).setCell ⟨B, 0, none⟩ NM).setCell ⟨B, 1, none⟩ CL).setCell ⟨B, 2, none⟩ PV).setCell ⟨B, 3, none⟩ D).heap[B]? = some (.cells #[NM, CL, PV, D, F] 41 (0, 0)) := blk_set h6
  have h8 : ((((((((wc.setCell ⟨B, 1, none⟩ CL).setCell ⟨B, 3, none⟩ D).setCell ⟨B, 4, none⟩ F).setCell ⟨B, 0, none⟩ NM).setCell ⟨B, 1, none⟩ CL).setCell ⟨B, 2, none⟩ PV).setCell ⟨B, 3, none⟩ D).setCell ⟨B, 4, none⟩ F).heap[B]? = some (.cells #[NM, CL, PV, D, F] 41 (0, 0)) := blk_set h7
  exact ⟨h8, below_set (below_set (below_set (below_set (below_set (below_set (below_set (below_set (hb)))))))), own_set (own_set (own_set (own_set (own_set (own_set (own_set (own_set (ho))))))))⟩
theorem fin_not {w wc : World} {B n : Nat} {NM CL PV F x y z v : Value} {xs : List Value} (h : wc.heap[B]? = some (.cells #[NM, x, PV, y, z] 41 (0, 0))) (hb : Below B w wc) (ho : wc.ownsRow (B + 1) 22 1 v n xs) :
    (((((((wc.setCell ⟨B, 1, none⟩ CL).setCell ⟨B, 4, none⟩ F).setCell ⟨B, 0, none⟩ NM).setCell ⟨B, 1, none⟩ CL).setCell ⟨B, 2, none⟩ PV).setCell ⟨B, 3, none⟩ y).setCell ⟨B, 4, none⟩ F).heap[B]? = some (.cells #[NM, CL, PV, y, F] 41 (0, 0)) ∧ Below B w (((((((wc.setCell ⟨B, 1, none⟩ CL).setCell ⟨B, 4, none⟩ F).setCell ⟨B, 0, none⟩ NM).setCell ⟨B, 1, none⟩ CL).setCell ⟨B, 2, none⟩ PV).setCell ⟨B, 3, none⟩ y).setCell ⟨B, 4, none⟩ F) ∧ (((((((wc.setCell ⟨B, 1, none⟩ CL).setCell ⟨B, 4, none⟩ F).setCell ⟨B, 0, none⟩ NM).setCell ⟨B, 1, none⟩ CL).setCell ⟨B, 2, none⟩ PV).setCell ⟨B, 3, none⟩ y).setCell ⟨B, 4, none⟩ F).ownsRow (B + 1) 22 1 v n xs := by
  have h1 : (wc.setCell ⟨B, 1, none⟩ CL).heap[B]? = some (.cells #[NM, CL, PV, y, z] 41 (0, 0)) := blk_set h
  have h2 : ((wc.setCell ⟨B, 1, none⟩ CL).setCell ⟨B, 4, none⟩ F).heap[B]? = some (.cells #[NM, CL, PV, y, F] 41 (0, 0)) := blk_set h1
  have h3 : (((wc.setCell ⟨B, 1, none⟩ CL).setCell ⟨B, 4, none⟩ F).setCell ⟨B, 0, none⟩ NM).heap[B]? = some (.cells #[NM, CL, PV, y, F] 41 (0, 0)) := blk_set h2
  have h4 : ((((wc.setCell ⟨B, 1, none⟩ CL).setCell ⟨B, 4, none⟩ F).setCell ⟨B, 0, none⟩ NM).setCell ⟨B, 1, none⟩ CL).heap[B]? = some (.cells #[NM, CL, PV, y, F] 41 (0, 0)) := blk_set h3
  have h5 : (((((wc.setCell ⟨B, 1, none⟩ CL).setCell ⟨B, 4, none⟩ F).setCell ⟨B, 0, none⟩ NM).setCell ⟨B, 1, none⟩ CL).setCell ⟨B, 2, none⟩ PV).heap[B]? = some (.cells #[NM, CL, PV, y, F] 41 (0, 0)) := blk_set h4
  have h6 : ((((((wc.setCell ⟨B, 1, none⟩ CL).setCell ⟨B, 4, none⟩ F).setCell ⟨B, 0, none⟩ NM).setCell ⟨B, 1, none⟩ CL).setCell ⟨B, 2, none⟩ PV).setCell ⟨B, 3, none⟩ y).heap[B]? = some (.cells #[NM, CL, PV, y, F] 41 (0, 0)) := blk_set h5
  have h7 : (((((((wc.setCell ⟨B, 1, none⟩ CL).setCell ⟨B, 4, none⟩ F).setCell ⟨B, 0, none⟩ NM).setCell ⟨B, 1, none⟩ CL).setCell ⟨B, 2, none⟩ PV).setCell ⟨B, 3, none⟩ y).setCell ⟨B, 4, none⟩ F).heap[B]? = some (.cells #[NM, CL, PV, y, F] 41 (0, 0)) := blk_set h6
  exact ⟨h7, below_set (below_set (below_set (below_set (below_set (below_set (below_set (hb))))))), own_set (own_set (own_set (own_set (own_set (own_set (own_set (ho)))))))⟩

set_option maxRecDepth 20000 in
set_option maxHeartbeats 8000000 in
theorem def_any (l : List Int) (g cap n0 np fin : Nat) (name cls : ByteArray) (P : Nat → ByteArray) (dis crlf : Bool) (w : World) (hf : Fit l cap) (hg : g < w.heap.size) (hl : Lies w g l) (hH : Hdr l n0 name cls P np dis crlf fin)
    (hv : Parts name cls np P) (hnp : np ≤ 1000000) :
    Calls Try.prog 19 #[.slice (some ⟨g, 0, none⟩) l.length cap, .int .i64 n0] w (DefPost l g cap np fin name cls P dis w) := by
  obtain ⟨a2, a4, a5, a6, c2, a8, h1, h2, h3, h4, h5, h6, h7, h8, h9, h10, h11, h12, h13, h14, h15, h16⟩ := hH
  obtain ⟨v1, v2, v3⟩ := hv
  have bd : a2 ≤ 2000000 ∧ n0 + 9 ≤ 2000000 ∧ a2 + name.size + 1 ≤ a4 ∧ a4 ≤ 2000000 ∧ a4 ≤ l.length ∧ a4 ≤ cap ∧ cap ≤ 9223372036854775807 ∧ 0 < name.size := by
    have := hf.1; have := hf.2; have := h2.get; have := h5.get.1; have := h6.get; have := v1.1; simp at *; omega
  obtain ⟨bd1, bd2, bd3, bd4, bd5, bd6, bd7, bd8⟩ := bd
  have lies : ∀ wx, Below w.heap.size w wx → Lies wx g l := fun wx hb => hl.below hg hb
  have c1 := fun wx hb => c_yes (s := { data := #[47, 42, 35, 68, 69, 70, 73, 78, 69] }) hf (by rw [dl_DEF]; exact h1) (by decide) g wx (lies wx hb)
  have d1 := fun wx hb => c_blank hf h2 (show Txt l a2 (v1.head.choose :: v1.head.choose_spec.choose) by rw [← v1.head.choose_spec.choose_spec.1]; exact h4) v1.head.choose_spec.choose_spec.2 g wx (lies wx hb)
  have c3 := fun wx hb => c_name hf h4 v1 h5 (by unfold nb; omega) g wx (lies wx hb)
  have c4 := fun wx hb => c_yes (s := { data := #[40] }) hf (by rw [dl_open]; exact h5) (by decide) g wx (lies wx hb)
  obtain ⟨Q, J, i1, i2, i3, i4⟩ := h7
  obtain ⟨z, hz⟩ : ∃ z : Bool, z = true ↔ np = 0 := ⟨decide (np = 0), by simp⟩
  have c5 : ∀ wx, Below w.heap.size w wx → ∀ i : Int, i = ((a2 + name.size + 1 : Nat) : Int) → Calls Try.prog 23 #[.slice (some ⟨g, 0, none⟩) l.length cap, .int .i64 i] wx fun e w' => e = .returned (.int .i64 a4) ∧ wx = w' := by
    intro wx hb
    by_cases h0 : np = 0
    · rw [i3 h0] at h8
      exact c_blank hf h6 h8 (by unfold bl; omega) g wx (lies wx hb)
    · have := (i1 0 (by omega)).1
      rw [(i4 (by omega)).1] at this
      exact c_blank hf h6 (x := 35) (r := btl (P 0) ++ [35]) (by simpa using this) (by unfold bl; omega) g wx (lies wx hb)
  have c6 : ∀ wx, Below w.heap.size w wx → ∀ i : Int, i = (a4 : Int) → Calls Try.prog 22 #[.slice (some ⟨g, 0, none⟩) l.length cap, .int .i64 i, .string { data := #[41] }] wx fun e w' => e = .returned (.bool z) ∧ wx = w' := by
    intro wx hb
    by_cases h0 : np = 0
    · rw [i3 h0] at h8
      rw [hz.2 h0]
      exact c_yes hf (by rw [dl_close]; exact h8) (by decide) g wx (lies wx hb)
    · have := (i1 0 (by omega)).1
      rw [(i4 (by omega)).1] at this
      have hzf : z = false := by
        cases z with
        | false => rfl
        | true => exact absurd (hz.1 rfl) h0
      rw [hzf]
      exact c_no hf (x := 35) (r := btl (P 0) ++ [35]) (by simpa using this) (by omega) (by decide) (by decide) (by decide) g wx (lies wx hb)
  have I1 : Hid (∀ t, t < np → Item l (Q t) (P t) (J t)) := i1
  have I2 : Hid (∀ t, t + 1 < np → Link l (J t) (Q (t + 1))) := i2
  have I3 : Hid (np = 0 → a5 = a4) := i3
  have I4 : Hid (0 < np → Q 0 = a4 ∧ J (np - 1) = a5) := i4
  have HZ : Hid (z = true ↔ np = 0) := hz
  have V3 : Hid (∀ k, k < np → VN (P k) true) := v3
  have LI : Hid (∀ wx, Below w.heap.size w wx → Lies wx g l) := lies
  clear i1 i2 i3 i4 hz v3 h6
  have B0 : ∀ o, Below w.heap.size w (w.alloc o) := fun o => (Below.refl _ _).alloc (Nat.le_refl _) o
  have F : Hid (Fit l cap) := hf
  have H4 : Hid (Txt l a2 (btl name)) := h4
  clear hf h1 h4 h5 lies
  go_enter Try.func19, Try.ntmps19
  go_wp2_with fail
  refine (c1 _ (B0 _) _ (by omega)).mono ?_
  rintro e w' ⟨rfl, rfl⟩
  go_wp2_with fail
  refine (d1 _ (B0 _) _ (by omega)).mono ?_
  rintro e w' ⟨rfl, rfl⟩
  go_wp2_with fail
  refine (d1 _ (B0 _) _ (by omega)).mono ?_
  rintro e w' ⟨rfl, rfl⟩
  go_wp2_with fail
  refine (c3 _ (B0 _) _ (by omega)).mono ?_
  rintro e w' ⟨rfl, rfl⟩
  go_wp2_with fail
  refine (c4 _ (B0 _) _ (by omega)).mono ?_
  rintro e w' ⟨rfl, rfl⟩
  clear c1 d1 c3 c4
  go_wp2_with fail
  refine (c5 _ (B0 _) _ (by omega)).mono ?_
  rintro e w' ⟨rfl, rfl⟩
  clear c5
  go_upto_if 55 with (go_at_call 22; refine (c6 _ (B0 _) _ (by omega)).mono ?_; rintro e w' ⟨rfl, rfl⟩)
  clear c6
  go_cut [6] (fun i wc => ∃ po cp, i = .int .i64 a5 ∧ PS g cap P Q w.heap.size (.slice (some ⟨g, a2, none⟩) name.size (cap - a2)) w wc po np cp)
  case first =>
    cases z with
    | true =>
      go_wp2
      go_meet
      case rel =>
        have h0 : np = 0 := by have := HZ.out; simpa using this
        refine ⟨none, 0, by rw [I3.out h0], ?_⟩
        subst h0
        exact ⟨heap_alloc_new w _, World.ownsRow_nil _ _ _ _, B0 _, by simp⟩
    | false =>
      have hnp0 : 0 < np := by
        rcases Nat.eq_zero_or_pos np with h | h
        · have := HZ.out; simp [h] at this
        · exact h
      go_wp2
      go_loopw [6] (fun i wr => ∃ (k cp : Nat) (po : Option Addr), k < np ∧ i = .int .i64 (Q k) ∧ PS g cap P Q w.heap.size (.slice (some ⟨g, a2, none⟩) name.size (cap - a2)) w wr po k cp) (fun i _ => l.length - (intOf i).toNat)
      case atStart => exact ⟨0, 0, none, hnp0, by rw [(I4.out hnp0).1], heap_alloc_new w _, World.ownsRow_nil _ _ _ _, B0 _, by simp⟩
      case round =>
        obtain ⟨k, cp, po, hk, rfl, hp1, hp2, hp3, hp4⟩ := hrel
        have d1 := c_word F.out (I1.out k hk) (V3.out k hk) g wr (LI.out wr hp3)
        have hq := (I1.out k hk).2.get
        have HQ1 : Hid (wr.heap[w.heap.size]? = some (.cells #[.slice (some ⟨g, a2, none⟩) name.size (cap - a2), .slice none 0 0, .slice po k cp, .bool false, .int .i64 0] 41 (0, 0))) := hp1
        have HQ2 : Hid (wr.ownsRow (w.heap.size + 1) 22 1 (.slice po k cp) k (sls g cap P Q k)) := hp2
        have HQ3 : Hid (Below w.heap.size w wr) := hp3
        have ce2 : wr.cell? ⟨w.heap.size, 2, none⟩ = some (.slice po k cp) := by rw [cell_of_row wr _ 2 _ 41 (0, 0) hp1]; rfl
        have fz2 : wr.frozen? ⟨w.heap.size, 2, none⟩ = false := by simp [World.frozen?, hp1]
        have ce2a : ∀ o, (wr.alloc o).cell? ⟨w.heap.size, 2, none⟩ = some (.slice po k cp) := fun o => by rw [cell_of_row (wr.alloc o) _ 2 _ 41 (0, 0) ((Below.heap_alloc wr o _ (by omega)).trans hp1)]; rfl
        obtain ⟨hq1, hq2, -⟩ := hq
        have hLN := F.out.2
        have hLN1 := F.out.1
        clear hp1 hp2 hp3
        go_wp2_with fail
        refine (d1 _ (by omega)).mono ?_
        rintro e w' ⟨rfl, rfl⟩
        clear d1
        go_wp2
        have n1 : IntKind.i64.wrap ((Q k : Int) + 1) = (Q k : Int) + 1 := by rw [IntKind.wrap_i64]; omega
        have n2 : IntKind.i64.wrap ((Q k : Int) + ((P k).size : Int) + 2 - 1) = (Q k : Int) + ((P k).size : Int) + 1 := by rw [IntKind.wrap_i64]; omega
        have n3 : (0 : Int) ≤ (Q k : Int) + ((P k).size : Int) + 1 := by omega
        have n4 : (Q k : Int) + ((P k).size : Int) + 1 ≤ (cap : Int) := by omega
        have n5 : (0 : Int) ≤ (Q k : Int) + 1 := by omega
        have n6 : (Q k : Int) + 1 ≤ max ((Q k : Int) + ((P k).size : Int) + 1) 0 := by omega
        have n7 : ((Q k : Int) + 1).toNat = Q k + 1 := by omega
        have n8 : ((Q k : Int) + ((P k).size : Int) + 1).toNat = Q k + (P k).size + 1 := by omega
        have n9 : ¬ cap = Q k + 1 := by have := (V3.out k hk).1; omega
        have n10 : Q k + (P k).size + 1 - (Q k + 1) = (P k).size := by omega
        have n11 : (Q k : Int) ≤ (Q k : Int) + ((P k).size : Int) := by omega
        go_region_law (refine step_params rfl _ _ rfl (w.heap.size + 1) (.slice po k cp) k (sls g cap P Q k) rfl (HQ2.out.alloc _).drew _ (.slice (some ⟨g, Q k + 1, none⟩) (P k).size (cap - (Q k + 1))) rfl (by simp) rfl (by omega) (by simp; omega) ?_; intro g' cap' w' ho hgr; obtain ⟨hbk, hce, hfz⟩ := after_app HQ1.out HQ2.out (Nat.lt_succ_self _) hgr; have ce' := hce 2; have fz' := hfz 2; replace ce' : w'.cell? ⟨w.heap.size, 2, none⟩ = some (.slice po k cp) := ce'; clear hce hfz)
        all_goals
          have PX := ps_next HQ2.out HQ3.out hp4 hbk ho hgr
          clear hbk ho hgr ce' fz' ce2 fz2 ce2a n1 n2 n3 n4 n5 n6 n7 n8 n9 n10 n11
          have e1 := c_blank1 F.out I1.out I2.out I4.out h8 hk g _ (LI.out _ PX.2.2.1)
          go_wp2_with fail
          refine (e1 _ (by omega)).mono ?_
          rintro e wq ⟨rfl, rfl⟩
          clear e1
          by_cases hlast : k + 1 < np
          · have e2 := c_yes (s := { data := #[44] }) F.out (by rw [dl_comma]; exact (I2.out k hlast).1) (by decide) g _ (LI.out _ PX.2.2.1)
            have e3 := c_blank F.out (I2.out k hlast).2 (x := 35) (r := btl (P (k + 1)) ++ [35]) (by simpa using (I1.out (k + 1) hlast).1) (by unfold bl; omega) g _ (LI.out _ PX.2.2.1)
            have hj1 := (I2.out k hlast).2.get.1
            have hj2 := (I1.out (k + 1) hlast).2.get
            have hj3 := (I1.out (k + 1) hlast).1.get.1
            go_wp2_with fail
            refine (e2 _ (by omega)).mono ?_
            rintro e wq ⟨rfl, rfl⟩
            go_wp2_with fail
            refine (e3 _ (by omega)).mono ?_
            rintro e wq ⟨rfl, rfl⟩
            clear e2 e3
            go_wp2
            go_roundw
            case rel => first | exact ⟨k + 1, cap', some ⟨g', 0, none⟩, hlast, rfl, PX⟩ | ((repeat apply Exists.intro); exact ⟨⟨k + 1, cap', some ⟨g', 0, none⟩, hlast, rfl, PX⟩, rfl⟩)
            case measure => simp [intOf]; omega
          · have h8' : Txt l (J k) [41] := by rw [show k = np - 1 by omega, (I4.out hnp0).2]; exact h8
            have e2 := c_no (s := { data := #[44] }) F.out h8' (by omega) (by decide) (by decide) (by decide) g _ (LI.out _ PX.2.2.1)
            have e3 := c_yes (s := { data := #[41] }) F.out (by rw [dl_close]; exact h8') (by decide) g _ (LI.out _ PX.2.2.1)
            go_wp2_with fail
            refine (e2 _ (by omega)).mono ?_
            rintro e wq ⟨rfl, rfl⟩
            go_wp2_with fail
            refine (e3 _ (by omega)).mono ?_
            rintro e wq ⟨rfl, rfl⟩
            clear e2 e3
            go_wp2_with fail
            go_meet
            case rel =>
              refine ⟨some ⟨g', 0, none⟩, cap', ?_, ?_⟩
              · rw [show k = np - 1 by omega, (I4.out hnp0).2]
              · rw [show np = k + 1 by omega]; exact PX
  case rest =>
    obtain ⟨po, cp, rfl, hp1, hp2, hp3, hp4⟩ := hcut
    have hb1 : ∀ v, Below w.heap.size w (wc.setCell ⟨w.heap.size, 1, none⟩ v) := fun v => hp3.setCell (p := ⟨w.heap.size, 1, none⟩) (Nat.le_refl _) v
    have hb2 : ∀ v v', Below w.heap.size w ((wc.setCell ⟨w.heap.size, 1, none⟩ v).setCell ⟨w.heap.size, 3, none⟩ v') := fun v v' => (hb1 v).setCell (p := ⟨w.heap.size, 3, none⟩) (Nat.le_refl _) v'
    have q0 : wc.cell? ⟨w.heap.size, 0, none⟩ = some (.slice (some ⟨g, a2, none⟩) name.size (cap - a2)) := by rw [cell_of_row wc _ 0 _ 41 (0, 0) hp1]; rfl
    have q1 : wc.cell? ⟨w.heap.size, 1, none⟩ = some (.slice none 0 0) := by rw [cell_of_row wc _ 1 _ 41 (0, 0) hp1]; rfl
    have q2 : wc.cell? ⟨w.heap.size, 2, none⟩ = some (.slice po np cp) := by rw [cell_of_row wc _ 2 _ 41 (0, 0) hp1]; rfl
    have q3 : wc.cell? ⟨w.heap.size, 3, none⟩ = some (.bool false) := by rw [cell_of_row wc _ 3 _ 41 (0, 0) hp1]; rfl
    have q4 : wc.cell? ⟨w.heap.size, 4, none⟩ = some (.int .i64 0) := by rw [cell_of_row wc _ 4 _ 41 (0, 0) hp1]; rfl
    have z1 : ∀ j, wc.frozen? ⟨w.heap.size, j, none⟩ = false := fun j => by simp [World.frozen?, hp1]
    have t1 := fun wx hb => c_blank F.out h9 (x := 67) h11 (by unfold bl; omega) g wx (LI.out wx hb)
    have t2 := fun wx hb => c_yes (s := { data := #[67, 76, 65, 83, 83, 40] }) F.out (by rw [dl_CLS]; exact h11) (by decide) g wx (LI.out wx hb)
    have t3 := fun wx hb => c_name F.out h12 v2 h13 (by unfold nb; omega) g wx (LI.out wx hb)
    have t4 := fun wx hb => c_yes (s := { data := #[41] }) F.out (by rw [dl_close]; exact h13) (by decide) g wx (LI.out wx hb)
    have HP1 : Hid (wc.heap[w.heap.size]? = some (.cells #[.slice (some ⟨g, a2, none⟩) name.size (cap - a2), .slice none 0 0, .slice po np cp, .bool false, .int .i64 0] 41 (0, 0))) := hp1
    have HP2 : Hid (wc.ownsRow (w.heap.size + 1) 22 1 (.slice po np cp) np (sls g cap P Q np)) := hp2
    have H12 : Hid (Txt l (a6 + 6) (btl cls)) := h12
    have bd9 : a6 + 7 + cls.size ≤ l.length ∧ a6 + 7 + cls.size ≤ cap ∧ a6 + 7 + cls.size ≤ 2000000 ∧ 0 < cls.size ∧ a5 + 1 < a6 := by
      have := h13.get.1; have := F.out.1; have := F.out.2; have := v2.1; simp at *; omega
    obtain ⟨bd9, bd10, bd11, bd12, bd13⟩ := bd9
    clear hp1 hp2 h9 h11 h12 h13 h10
    rcases h14 with ⟨rfl, a7, g1, g2, g3, rfl⟩ | ⟨rfl, rfl⟩
    · have t5 := fun wx hb => c_blank F.out g1 (x := 68) g3 (by unfold bl; omega) g wx (LI.out wx hb)
      have t6 := fun wx hb => c_yes (s := { data := #[68, 73, 83, 65, 66, 76, 69, 68] }) F.out (by rw [dl_DIS]; exact g3) (by decide) g wx (LI.out wx hb)
      have bd14 := g1.get.2.1
      have bd15 := F.out.1
      have bd16 := h15.get
      obtain ⟨bd16, bd17, -⟩ := bd16
      clear g1 g3
      rcases h16 with ⟨rfl, g4, rfl⟩ | ⟨rfl, g4, rfl⟩
      · have t7 := fun wx hb => c_blank F.out h15 (x := 13) g4 (by unfold bl; omega) g wx (LI.out wx hb)
        have t8 := fun wx hb => c_yes (s := { data := #[13, 10] }) F.out (by rw [dl_crlf]; exact g4) (by decide) g wx (LI.out wx hb)
        clear g4 h15
        go_wp2_with fail
        refine (t1 _ hp3 _ (by omega)).mono ?_
        rintro e wq ⟨rfl, rfl⟩
        go_wp2_with fail
        refine (t2 _ hp3 _ (by omega)).mono ?_
        rintro e wq ⟨rfl, rfl⟩
        go_wp2_with fail
        refine (t3 _ hp3 _ (by omega)).mono ?_
        rintro e wq ⟨rfl, rfl⟩
        go_wp2_with fail
        refine (t4 _ hp3 _ (by omega)).mono ?_
        rintro e wq ⟨rfl, rfl⟩
        go_wp2_with fail
        refine (t5 _ (hb1 _) _ (by omega)).mono ?_
        rintro e wq ⟨rfl, rfl⟩
        go_wp2_with fail
        refine (t6 _ (hb1 _) _ (by omega)).mono ?_
        rintro e wq ⟨rfl, rfl⟩
        go_wp2_with fail
        refine (t7 _ (hb2 _ _) _ (by omega)).mono ?_
        rintro e wq ⟨rfl, rfl⟩
        go_wp2_with fail
        refine (t8 _ (hb2 _ _) _ (by omega)).mono ?_
        rintro e wq ⟨rfl, rfl⟩
        go_wp2
        refine bodyPost_ret (v := .tuple #[.agg #[.slice (some ⟨g, a2, none⟩) name.size (cap - a2), .slice (some ⟨g, a6 + 6, none⟩) cls.size (cap - (a6 + 6)), .slice po np cp, .bool true, .int .i64 ((a8 : Int) + 2)], .bool true]) (results_h (B := w.heap.size) rfl rfl (fin_dis HP1.out hp3 HP2.out).1) rfl ⟨po, cp, a2, a6 + 6, Q, by rw [show ((a8 + 2 : Nat) : Int) = (a8 : Int) + 2 by omega], ?_, ?_, H4.out, H12.out, fun t ht => (I1.out t ht).mid⟩
        · exact (fin_dis HP1.out hp3 HP2.out).2.1
        · exact (fin_dis HP1.out hp3 HP2.out).2.2
      · have t7 := fun wx hb => c_blank F.out h15 (x := 10) g4 (by unfold bl; omega) g wx (LI.out wx hb)
        have t8 := fun wx hb => c_no (s := { data := #[13, 10] }) F.out g4 (by omega) (by decide) (by decide) (by decide) g wx (LI.out wx hb)
        have t9 := fun wx hb => c_yes (s := { data := #[10] }) F.out (by rw [dl_lf]; exact g4) (by decide) g wx (LI.out wx hb)
        clear g4 h15
        go_wp2_with fail
        refine (t1 _ hp3 _ (by omega)).mono ?_
        rintro e wq ⟨rfl, rfl⟩
        go_wp2_with fail
        refine (t2 _ hp3 _ (by omega)).mono ?_
        rintro e wq ⟨rfl, rfl⟩
        go_wp2_with fail
        refine (t3 _ hp3 _ (by omega)).mono ?_
        rintro e wq ⟨rfl, rfl⟩
        go_wp2_with fail
        refine (t4 _ hp3 _ (by omega)).mono ?_
        rintro e wq ⟨rfl, rfl⟩
        go_wp2_with fail
        refine (t5 _ (hb1 _) _ (by omega)).mono ?_
        rintro e wq ⟨rfl, rfl⟩
        go_wp2_with fail
        refine (t6 _ (hb1 _) _ (by omega)).mono ?_
        rintro e wq ⟨rfl, rfl⟩
        go_wp2_with fail
        refine (t7 _ (hb2 _ _) _ (by omega)).mono ?_
        rintro e wq ⟨rfl, rfl⟩
        go_wp2_with fail
        refine (t8 _ (hb2 _ _) _ (by omega)).mono ?_
        rintro e wq ⟨rfl, rfl⟩
        go_wp2_with fail
        refine (t9 _ (hb2 _ _) _ (by omega)).mono ?_
        rintro e wq ⟨rfl, rfl⟩
        go_wp2
        refine bodyPost_ret (v := .tuple #[.agg #[.slice (some ⟨g, a2, none⟩) name.size (cap - a2), .slice (some ⟨g, a6 + 6, none⟩) cls.size (cap - (a6 + 6)), .slice po np cp, .bool true, .int .i64 ((a8 : Int) + 1)], .bool true]) (results_h (B := w.heap.size) rfl rfl (fin_dis HP1.out hp3 HP2.out).1) rfl ⟨po, cp, a2, a6 + 6, Q, by rw [show ((a8 + 1 : Nat) : Int) = (a8 : Int) + 1 by omega], ?_, ?_, H4.out, H12.out, fun t ht => (I1.out t ht).mid⟩
        · exact (fin_dis HP1.out hp3 HP2.out).2.1
        · exact (fin_dis HP1.out hp3 HP2.out).2.2
    · have bd15 := F.out.1
      have bd16 := h15.get
      obtain ⟨bd16, bd17, -⟩ := bd16
      rcases h16 with ⟨rfl, g4, rfl⟩ | ⟨rfl, g4, rfl⟩
      · have t5 := fun wx hb => c_blank F.out h15 (x := 13) g4 (by unfold bl; omega) g wx (LI.out wx hb)
        have t6 := fun wx hb => c_no (s := { data := #[68, 73, 83, 65, 66, 76, 69, 68] }) F.out g4 (by omega) (by decide) (by decide) (by decide) g wx (LI.out wx hb)
        have t8 := fun wx hb => c_yes (s := { data := #[13, 10] }) F.out (by rw [dl_crlf]; exact g4) (by decide) g wx (LI.out wx hb)
        clear g4 h15
        by_cases hbig : a6 + 7 + cls.size < a8
        · go_wp2_with fail
          refine (t1 _ hp3 _ (by omega)).mono ?_
          rintro e wq ⟨rfl, rfl⟩
          go_wp2_with fail
          refine (t2 _ hp3 _ (by omega)).mono ?_
          rintro e wq ⟨rfl, rfl⟩
          go_wp2_with fail
          refine (t3 _ hp3 _ (by omega)).mono ?_
          rintro e wq ⟨rfl, rfl⟩
          go_wp2_with fail
          refine (t4 _ hp3 _ (by omega)).mono ?_
          rintro e wq ⟨rfl, rfl⟩
          go_wp2_with fail
          refine (t5 _ (hb1 _) _ (by omega)).mono ?_
          rintro e wq ⟨rfl, rfl⟩
          go_wp2_with fail
          refine (t6 _ (hb1 _) _ (by omega)).mono ?_
          rintro e wq ⟨rfl, rfl⟩
          go_wp2_with fail
          refine (t5 _ (hb1 _) _ (by omega)).mono ?_
          rintro e wq ⟨rfl, rfl⟩
          go_wp2_with fail
          refine (t8 _ (hb1 _) _ (by omega)).mono ?_
          rintro e wq ⟨rfl, rfl⟩
          go_wp2
          refine bodyPost_ret (v := .tuple #[.agg #[.slice (some ⟨g, a2, none⟩) name.size (cap - a2), .slice (some ⟨g, a6 + 6, none⟩) cls.size (cap - (a6 + 6)), .slice po np cp, .bool false, .int .i64 ((a8 : Int) + 2)], .bool true]) (results_h (B := w.heap.size) rfl rfl (fin_not HP1.out hp3 HP2.out).1) rfl ⟨po, cp, a2, a6 + 6, Q, by rw [show ((a8 + 2 : Nat) : Int) = (a8 : Int) + 2 by omega], ?_, ?_, H4.out, H12.out, fun t ht => (I1.out t ht).mid⟩
          · exact (fin_not HP1.out hp3 HP2.out).2.1
          · exact (fin_not HP1.out hp3 HP2.out).2.2
        · go_wp2_with fail
          refine (t1 _ hp3 _ (by omega)).mono ?_
          rintro e wq ⟨rfl, rfl⟩
          go_wp2_with fail
          refine (t2 _ hp3 _ (by omega)).mono ?_
          rintro e wq ⟨rfl, rfl⟩
          go_wp2_with fail
          refine (t3 _ hp3 _ (by omega)).mono ?_
          rintro e wq ⟨rfl, rfl⟩
          go_wp2_with fail
          refine (t4 _ hp3 _ (by omega)).mono ?_
          rintro e wq ⟨rfl, rfl⟩
          go_wp2_with fail
          refine (t5 _ (hb1 _) _ (by omega)).mono ?_
          rintro e wq ⟨rfl, rfl⟩
          go_wp2_with fail
          refine (t5 _ (hb1 _) _ (by omega)).mono ?_
          rintro e wq ⟨rfl, rfl⟩
          go_wp2_with fail
          refine (t8 _ (hb1 _) _ (by omega)).mono ?_
          rintro e wq ⟨rfl, rfl⟩
          go_wp2
          refine bodyPost_ret (v := .tuple #[.agg #[.slice (some ⟨g, a2, none⟩) name.size (cap - a2), .slice (some ⟨g, a6 + 6, none⟩) cls.size (cap - (a6 + 6)), .slice po np cp, .bool false, .int .i64 ((a8 : Int) + 2)], .bool true]) (results_h (B := w.heap.size) rfl rfl (fin_not HP1.out hp3 HP2.out).1) rfl ⟨po, cp, a2, a6 + 6, Q, by rw [show ((a8 + 2 : Nat) : Int) = (a8 : Int) + 2 by omega], ?_, ?_, H4.out, H12.out, fun t ht => (I1.out t ht).mid⟩
          · exact (fin_not HP1.out hp3 HP2.out).2.1
          · exact (fin_not HP1.out hp3 HP2.out).2.2
      · have t5 := fun wx hb => c_blank F.out h15 (x := 10) g4 (by unfold bl; omega) g wx (LI.out wx hb)
        have t6 := fun wx hb => c_no (s := { data := #[68, 73, 83, 65, 66, 76, 69, 68] }) F.out g4 (by omega) (by decide) (by decide) (by decide) g wx (LI.out wx hb)
        have t8 := fun wx hb => c_no (s := { data := #[13, 10] }) F.out g4 (by omega) (by decide) (by decide) (by decide) g wx (LI.out wx hb)
        have t9 := fun wx hb => c_yes (s := { data := #[10] }) F.out (by rw [dl_lf]; exact g4) (by decide) g wx (LI.out wx hb)
        clear g4 h15
        by_cases hbig : a6 + 7 + cls.size < a8
        · go_wp2_with fail
          refine (t1 _ hp3 _ (by omega)).mono ?_
          rintro e wq ⟨rfl, rfl⟩
          go_wp2_with fail
          refine (t2 _ hp3 _ (by omega)).mono ?_
          rintro e wq ⟨rfl, rfl⟩
          go_wp2_with fail
          refine (t3 _ hp3 _ (by omega)).mono ?_
          rintro e wq ⟨rfl, rfl⟩
          go_wp2_with fail
          refine (t4 _ hp3 _ (by omega)).mono ?_
          rintro e wq ⟨rfl, rfl⟩
          go_wp2_with fail
          refine (t5 _ (hb1 _) _ (by omega)).mono ?_
          rintro e wq ⟨rfl, rfl⟩
          go_wp2_with fail
          refine (t6 _ (hb1 _) _ (by omega)).mono ?_
          rintro e wq ⟨rfl, rfl⟩
          go_wp2_with fail
          refine (t5 _ (hb1 _) _ (by omega)).mono ?_
          rintro e wq ⟨rfl, rfl⟩
          go_wp2_with fail
          refine (t8 _ (hb1 _) _ (by omega)).mono ?_
          rintro e wq ⟨rfl, rfl⟩
          go_wp2_with fail
          refine (t9 _ (hb1 _) _ (by omega)).mono ?_
          rintro e wq ⟨rfl, rfl⟩
          go_wp2
          refine bodyPost_ret (v := .tuple #[.agg #[.slice (some ⟨g, a2, none⟩) name.size (cap - a2), .slice (some ⟨g, a6 + 6, none⟩) cls.size (cap - (a6 + 6)), .slice po np cp, .bool false, .int .i64 ((a8 : Int) + 1)], .bool true]) (results_h (B := w.heap.size) rfl rfl (fin_not HP1.out hp3 HP2.out).1) rfl ⟨po, cp, a2, a6 + 6, Q, by rw [show ((a8 + 1 : Nat) : Int) = (a8 : Int) + 1 by omega], ?_, ?_, H4.out, H12.out, fun t ht => (I1.out t ht).mid⟩
          · exact (fin_not HP1.out hp3 HP2.out).2.1
          · exact (fin_not HP1.out hp3 HP2.out).2.2
        · go_wp2_with fail
          refine (t1 _ hp3 _ (by omega)).mono ?_
          rintro e wq ⟨rfl, rfl⟩
          go_wp2_with fail
          refine (t2 _ hp3 _ (by omega)).mono ?_
          rintro e wq ⟨rfl, rfl⟩
          go_wp2_with fail
          refine (t3 _ hp3 _ (by omega)).mono ?_
          rintro e wq ⟨rfl, rfl⟩
          go_wp2_with fail
          refine (t4 _ hp3 _ (by omega)).mono ?_
          rintro e wq ⟨rfl, rfl⟩
          go_wp2_with fail
          refine (t5 _ (hb1 _) _ (by omega)).mono ?_
          rintro e wq ⟨rfl, rfl⟩
          go_wp2_with fail
          refine (t5 _ (hb1 _) _ (by omega)).mono ?_
          rintro e wq ⟨rfl, rfl⟩
          go_wp2_with fail
          refine (t8 _ (hb1 _) _ (by omega)).mono ?_
          rintro e wq ⟨rfl, rfl⟩
          go_wp2_with fail
          refine (t9 _ (hb1 _) _ (by omega)).mono ?_
          rintro e wq ⟨rfl, rfl⟩
          go_wp2
          refine bodyPost_ret (v := .tuple #[.agg #[.slice (some ⟨g, a2, none⟩) name.size (cap - a2), .slice (some ⟨g, a6 + 6, none⟩) cls.size (cap - (a6 + 6)), .slice po np cp, .bool false, .int .i64 ((a8 : Int) + 1)], .bool true]) (results_h (B := w.heap.size) rfl rfl (fin_not HP1.out hp3 HP2.out).1) rfl ⟨po, cp, a2, a6 + 6, Q, by rw [show ((a8 + 1 : Nat) : Int) = (a8 : Int) + 1 by omega], ?_, ?_, H4.out, H12.out, fun t ht => (I1.out t ht).mid⟩
          · exact (fin_not HP1.out hp3 HP2.out).2.1
          · exact (fin_not HP1.out hp3 HP2.out).2.2
#print axioms def_any
end Go.Proofs.Qxb6001548a
