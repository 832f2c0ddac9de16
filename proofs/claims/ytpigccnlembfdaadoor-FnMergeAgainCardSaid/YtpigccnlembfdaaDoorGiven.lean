/- The walks of spec.Same, laws.told and laws.given where an answer is a value that stands for the same JSON value as another. Conditions: the trees lie in the world and are right. -/
import Derived.Test.YtpigccnlembfdaaDoorCmp
namespace Go.Proofs.YtpigccnlembfdaaDoor
open Go.RowKit

/-- Two right trees in the world that stand for one JSON value. -/
structure Twin (w : World) (B : Nat) (x y : V) : Prop where
  hx : x.In w B
  hy : y.In w B
  hB : B ≤ w.heap.size
  gx : x.Good
  gy : y.Good
  hj : x.toJ = y.toJ
theorem Twin.below {w w' : World} {B : Nat} {x y : V} (h : Twin w B x y) (hb : Below w.heap.size w w') : Twin w' B x y :=
  ⟨h.hx.below hb h.hB, h.hy.below hb h.hB, Nat.le_trans h.hB hb.size, h.gx, h.gy, h.hj⟩

set_option maxHeartbeats 400000 in
theorem same_any (w : World) (B : Nat) (x y : V) (h : Twin w B x y) :
    Calls Tryd.prog 19 #[x.val, y.val] w (Same0 w (.bool true)) := by
  have HT := Lib.hid h
  have hC : ∀ w', Below w.heap.size w w' → Calls Tryd.prog 27 #[x.val, y.val] w' (Same0 w' (.int .i64 0)) := fun w' hb => by
    have h' := HT.out.below hb
    exact cmp_same x.deep x y w' B (Nat.le_refl _) h'.hx h'.hy h'.hB h'.gx h'.gy h'.hj
  obtain ⟨k, h, t, aL, cL, l, aK, cK, ks, aV, cV, vs⟩ := x
  obtain ⟨k', h', t', aL', cL', l', aK', cK', ks', aV', cV', vs'⟩ := y
  rw [V.val_mk, V.val_mk] at hC
  rw [V.val_mk, V.val_mk]
  have HC := Lib.hid hC
  clear hC HT
  have HB2 := Lib.hid (below2 w)
  generalize l.length = n1 at *
  generalize ks.length = n2 at *
  generalize vs.length = n3 at *
  generalize l'.length = n4 at *
  generalize ks'.length = n5 at *
  generalize vs'.length = n6 at *
  go_enter Tryd.func19, Tryd.ntmps19
  go_wp2_with (go_at_call 27; refine (HC.out _ (HB2.out _ _)).mono ?_; rintro e w' ⟨rfl, hb⟩)
  go_ret
  exact ⟨rfl, (HB2.out _ _).trans (hb.mono (by simp; omega))⟩

set_option maxHeartbeats 400000 in
theorem told_same (w : World) (B : Nat) (x y : V) (h : Twin w B x y) :
    Calls Tryd.prog 22 #[.agg (x.cells ++ [Value.int .i64 0]).toArray, y.val, .int .i64 0] w (Same0 w (.bool true)) := by
  have HT := Lib.hid h
  have hC : ∀ w', Below w.heap.size w w' → Calls Tryd.prog 19 #[x.val, y.val] w' (Same0 w' (.bool true)) := fun w' hb =>
    same_any w' B x y (HT.out.below hb)
  obtain ⟨k, h, t, aL, cL, l, aK, cK, ks, aV, cV, vs⟩ := x
  obtain ⟨k', h', t', aL', cL', l', aK', cK', ks', aV', cV', vs'⟩ := y
  rw [V.val_mk, V.val_mk] at hC
  rw [V.val_mk]
  simp only [V.cells, List.cons_append, List.nil_append]
  have HC := Lib.hid hC
  clear hC HT
  have HB2 := Lib.hid (below2 w)
  generalize l.length = n1 at *
  generalize ks.length = n2 at *
  generalize vs.length = n3 at *
  generalize l'.length = n4 at *
  generalize ks'.length = n5 at *
  generalize vs'.length = n6 at *
  go_enter Tryd.func22, Tryd.ntmps22
  go_wp2_with (go_at_call 19; refine (HC.out _ (HB2.out _ _)).mono ?_; rintro e w' ⟨rfl, hb⟩)
  go_ret
  exact ⟨rfl, (HB2.out _ _).trans (hb.mono (by simp; omega))⟩

set_option maxHeartbeats 400000 in
/-- given: the answer is the value. -/
theorem given_same (w : World) (B : Nat) (x y : V) (h : Twin w B x y) :
    Calls Tryd.prog 13 #[.agg (x.cells ++ [Value.int .i64 0]).toArray, y.val] w (Same0 w (.bool true)) := by
  have HT := Lib.hid h
  have hC : ∀ w', Below w.heap.size w w' → Calls Tryd.prog 22 #[.agg (x.cells ++ [Value.int .i64 0]).toArray, y.val, .int .i64 0] w' (Same0 w' (.bool true)) := fun w' hb =>
    told_same w' B x y (HT.out.below hb)
  obtain ⟨k, h, t, aL, cL, l, aK, cK, ks, aV, cV, vs⟩ := x
  obtain ⟨k', h', t', aL', cL', l', aK', cK', ks', aV', cV', vs'⟩ := y
  rw [V.val_mk] at hC
  rw [V.val_mk]
  simp only [V.cells, List.cons_append, List.nil_append] at hC ⊢
  have HC := Lib.hid hC
  clear hC HT
  have HB2 := Lib.hid (below2 w)
  generalize l.length = n1 at *
  generalize ks.length = n2 at *
  generalize vs.length = n3 at *
  generalize l'.length = n4 at *
  generalize ks'.length = n5 at *
  generalize vs'.length = n6 at *
  go_enter Tryd.func13, Tryd.ntmps13
  go_wp2_with (go_at_call 22; refine (HC.out _ (HB2.out _ _)).mono ?_; rintro e w' ⟨rfl, hb⟩)
  go_ret
  exact ⟨rfl, (HB2.out _ _).trans (hb.mono (by simp; omega))⟩
end Go.Proofs.YtpigccnlembfdaaDoor
