/-
  THE CONTRACT OF ZZdefinitionHeaderAt (10), AND bytesEqualString AT A PART OF THE ROW.
-/
import Derived.Test.Qxb6001548aDef
import Derived.WalkSmall
namespace Go.Proofs.Qxb6001548a
open Go.RowKit Go.ChangeShapes Go.WideShapes Go.ChangeAt

/-- What ZZdefinitionHeaderAt leaves. -/
def ZPost (l : List Int) (g cap np fin : Nat) (name cls : ByteArray) (P : Nat → ByteArray) (dis : Bool) (w : World) (e : Ending) (w' : World) : Prop :=
  ∃ (po : Option Addr) (cp a b : Nat) (Q : Nat → Nat), e = .returned (.tuple #[.slice (some ⟨g, a, none⟩) name.size (cap - a), .slice (some ⟨g, b, none⟩) cls.size (cap - b), .slice po np cp, .bool dis, .int .i64 (fin : Int), .bool true]) ∧
    Below w.heap.size w w' ∧ w'.ownsRow (w.heap.size + 1) 22 1 (.slice po np cp) np (sls g cap P Q np) ∧ Txt l a (btl name) ∧ Txt l b (btl cls) ∧ ∀ t, t < np → Txt l (Q t + 1) (btl (P t))

theorem own_drewN {w : World} {base n : Nat} {e : TypeId} {v : Value} {xs : List Value} (h : w.ownsRow base e 1 v n xs) (m : Nat) : (w.drewN m).ownsRow base e 1 v n xs := h

set_option maxRecDepth 20000 in
set_option maxHeartbeats 1000000 in
theorem zd_any (l : List Int) (g cap n0 np fin : Nat) (name cls : ByteArray) (P : Nat → ByteArray) (dis crlf : Bool) (w : World) (hf : Fit l cap) (hg : g < w.heap.size) (hl : Lies w g l) (hH : Hdr l n0 name cls P np dis crlf fin)
    (hv : Parts name cls np P) (hnp : np ≤ 1000000) :
    Calls Try.prog 10 #[.slice (some ⟨g, 0, none⟩) l.length cap, .int .i64 n0] w (ZPost l g cap np fin name cls P dis w) := by
  have c := def_any l g cap n0 np fin name cls P dis crlf w hf hg hl hH hv hnp
  clear hf hl hH hv
  go_enter Try.func10, Try.ntmps10
  go_wp2_with fail
  refine c.mono ?_
  rintro e w1 ⟨po, cp, a, b, Q, rfl, h1, h2, h3, h4, h5⟩
  clear c
  have H1 : Hid (Below w.heap.size w w1) := h1
  have H2 : Hid (w1.ownsRow (w.heap.size + 1) 22 1 (.slice po np cp) np (sls g cap P Q np)) := h2
  have H3 : Hid (Txt l a (btl name)) := h3
  have H4 : Hid (Txt l b (btl cls)) := h4
  have H5 : Hid (∀ t, t < np → Txt l (Q t + 1) (btl (P t))) := h5
  have hsz := h1.size
  clear h1 h2 h3 h4 h5
  go_wp2
  go_quiet (fail)
  go_wp2
  refine bodyPost_ret (v := .tuple #[.slice (some ⟨g, a, none⟩) name.size (cap - a), .slice (some ⟨g, b, none⟩) cls.size (cap - b), .slice po np cp, .bool dis, .int .i64 (fin : Int), .bool true]) (by simp [results, Try.results10]) rfl ⟨po, cp, a, b, Q, rfl, below_drewN (H1.out.alloc hsz _) _, ?_, H3.out, H4.out, H5.out⟩
  exact own_drewN (H2.out.alloc _) _

theorem eq_at (l : List Int) (g a c : Nat) (s : ByteArray) (w : World) (hn : l.length ≤ 2000000) (hl : Lies w g l) (h : Txt l a (btl s)) :
    Calls Try.prog 11 #[.slice (some ⟨g, a, none⟩) s.size c, .string s] w fun e w' => e = .returned (.bool true) ∧ ∃ m, w' = w.drewN m := by
  obtain ⟨h1, h2⟩ := h.get
  rw [btl_length] at h1 h2
  exact equal_any g a s.size c s (bt s) w (by omega) rfl (fun _ _ => rfl) (fun k hk => by
    have := hl (a + k) (by omega)
    rw [this]
    show some (Value.int .u8 (l.getD (a + k) 0)) = _
    rw [h2 k hk, btl_get hk])
#print axioms zd_any
end Go.Proofs.Qxb6001548a
